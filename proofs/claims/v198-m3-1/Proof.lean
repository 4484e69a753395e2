import JvmDerived
import JvmDerived.Pilot.@@N@@Statement
import JvmDerived.Pilot.@@N@@Code
set_option linter.unusedVariables false
set_option linter.unusedSimpArgs false
@@BLOCK:NumsL.lean.txt@@
namespace Jvm.Pilot.@@N@@
open Jvm Jvm.ClassFile Sem Op Lib Jvm.Free Jvm.Stand Jvm.LawKit Jvm.RoadKit Bundle Jvm.Pilot.@@N@@.Jvm.D
/-! OWN 1: a walk in continuation form: 'Go' says that from here the invocation ends well; one law a step carries it backwards -/
section OwnGo
variable {p : Program} {l : Launch} {e : Env} {R : Room} {s : State} {m : MethodId} {args : Array Value} {below : List Frame} {meth : Method} {c : Code} {Z : State} {y : MethodName} {bytes : ByteArray} {mx : Nat} {ret : Option FieldType} {n0 : Nat} {T T' : State} {h h' : Heap} {cells slots : Nat} {Q : Outcome → State → Prop} {pc pc' : Nat} {Ls : Array Slot} {st : List Value} {a0 : Array Value}
def Go (p : Program) (e : Env) (below : List Frame) (Q : Outcome → State → Prop) (t : State) : Prop := ∃ s₂ o, Steps p.tables e below t s₂ ∧ s₂.status = .running ∧ Ended s₂ below o ∧ Q o s₂
theorem Go.of {t t' : State} (k : ∀ u, Steps p.tables e below t' u → Steps p.tables e below t u) (G : Go p e below Q t') : Go p e below Q t := by
  obtain ⟨s₂, o, h1, h2⟩ := G; exact ⟨s₂, o, k _ h1, h2⟩
theorem Go.tr {t t' : State} (k : Steps p.tables e below t t') (G : Go p e below Q t') : Go p e below Q t := Go.of (fun _ h => k.trans h) G
/-- the place: all that a step asks of where the walk stands -/
def Pl (p : Program) (l : Launch) (e : Env) (R : Room) (s : State) (m : MethodId) (args : Array Value) (below : List Frame) (meth : Method) (c : Code) (Z : State) (y : MethodName) (bytes : ByteArray) (mx : Nat) (ret : Option FieldType) (n0 : Nat) (T : State) (h : Heap) (cells slots : Nat) : Prop :=
  (p.tables.exec = Jvm.exec ∧ Z.Warmed39 s.vm ∧ s.vm.findClass y.cls = some m.cls ∧ meth.name = y.name ∧ c.code = bytes ∧ c.maxLocals = mx ∧ meth.sig.returnType = ret ∧ meth.locks = false) ∧ ∃ locs, Stand p l e R s m args below meth c T locs cells slots ∧ Fr n0 locs ∧ T.heap = h
theorem Pl.here (P : Pl p l e R s m args below meth c Z y bytes mx ret n0 T h cells slots) : At T m c below := by obtain ⟨-, _, X, -⟩ := P; exact X.here
theorem Pl.hx (P : Pl p l e R s m args below meth c Z y bytes mx ret n0 T h cells slots) : p.tables.exec = Jvm.exec := P.1.1
theorem Pl.hZ (P : Pl p l e R s m args below meth c Z y bytes mx ret n0 T h cells slots) : Z.Warmed39 s.vm := P.1.2.1
theorem Pl.hown (P : Pl p l e R s m args below meth c Z y bytes mx ret n0 T h cells slots) : s.vm.findClass y.cls = some m.cls := P.1.2.2.1
theorem Pl.hnm (P : Pl p l e R s m args below meth c Z y bytes mx ret n0 T h cells slots) : meth.name = y.name := P.1.2.2.2.1
theorem Pl.hby (P : Pl p l e R s m args below meth c Z y bytes mx ret n0 T h cells slots) : c.code = bytes := P.1.2.2.2.2.1
theorem Pl.hml (P : Pl p l e R s m args below meth c Z y bytes mx ret n0 T h cells slots) : c.maxLocals = mx := P.1.2.2.2.2.2.1
theorem Pl.hrt (P : Pl p l e R s m args below meth c Z y bytes mx ret n0 T h cells slots) : meth.sig.returnType = ret := P.1.2.2.2.2.2.2.1
theorem Pl.hlk (P : Pl p l e R s m args below meth c Z y bytes mx ret n0 T h cells slots) : meth.locks = false := P.1.2.2.2.2.2.2.2
theorem Pl.up (P : Pl p l e R s m args below meth c Z y bytes mx ret n0 T h cells slots) {cells' slots' : Nat} (h1 : cells ≤ cells') (h2 : slots ≤ slots') : Pl p l e R s m args below meth c Z y bytes mx ret n0 T h cells' slots' := by
  obtain ⟨B, locs, X, N, eT⟩ := P
  exact ⟨B, locs, ⟨X.admits, X.cas, X.clock, X.frames, X.room, X.hears, X.method, X.code, X.here, X.tail, X.warmed, X.limits, X.bytes, X.same.mono h1 h2⟩, N, eT⟩
/-- a decode fact, with the place behind it -/
def D (b : ByteArray) (pc : Nat) (i : Instr) (n : Nat) (pc' : Nat) : Prop := decode b pc = .ok (i, n) ∧ pc + n = pc'
theorem Pl.dec (P : Pl p l e R s m args below meth c Z y bytes mx ret n0 T h cells slots) {i : Instr} {n : Nat} (hd : decode bytes pc = .ok (i, n)) : decode c.code pc = .ok (i, n) := by rw [P.hby]; exact hd

theorem g_iloadN (P : Pl p l e R s m args below meth c Z y bytes mx ret n0 T h cells slots) {k : Fin 4} {v : Int32} (hd : D bytes pc (.iload_n k) 1 pc') (hl : Ls[k.val]? = some (.val (.int v))) (G : Go p e below Q (T.setTop (mkF m pc' Ls (.int v :: st)))) : Go p e below Q (T.setTop (mkF m pc Ls st)) := by
  obtain ⟨hd, rfl⟩ := hd; exact Go.of (fun _ => XS.iloadN P.here P.hx rfl (P.dec hd) hl) G
theorem g_iload (P : Pl p l e R s m args below meth c Z y bytes mx ret n0 T h cells slots) {k : Nat} {v : Int32} (hd : D bytes pc (.iload k) 2 pc') (hl : Ls[k]? = some (.val (.int v))) (G : Go p e below Q (T.setTop (mkF m pc' Ls (.int v :: st)))) : Go p e below Q (T.setTop (mkF m pc Ls st)) := by
  obtain ⟨hd, rfl⟩ := hd; exact Go.of (fun _ => XS.iload P.here P.hx rfl (P.dec hd) hl) G
theorem g_lload (P : Pl p l e R s m args below meth c Z y bytes mx ret n0 T h cells slots) {k : Nat} {v : Int64} (hd : D bytes pc (.lload k) 2 pc') (hl : Ls[k]? = some (.val (.long v))) (G : Go p e below Q (T.setTop (mkF m pc' Ls (.long v :: st)))) : Go p e below Q (T.setTop (mkF m pc Ls st)) := by
  obtain ⟨hd, rfl⟩ := hd; exact Go.of (fun _ => XT.lload P.here P.hx rfl (P.dec hd) hl) G
theorem g_aloadN (P : Pl p l e R s m args below meth c Z y bytes mx ret n0 T h cells slots) {k : Fin 4} {v : Value} (hd : D bytes pc (.aload_n k) 1 pc') (hl : Ls[k.val]? = some (.val v)) (hv : v.isRef = true) (G : Go p e below Q (T.setTop (mkF m pc' Ls (v :: st)))) : Go p e below Q (T.setTop (mkF m pc Ls st)) := by
  obtain ⟨hd, rfl⟩ := hd; exact Go.of (fun _ => XS.aloadN P.here P.hx rfl (P.dec hd) hl hv) G
theorem g_aload (P : Pl p l e R s m args below meth c Z y bytes mx ret n0 T h cells slots) {k : Nat} {v : Value} (hd : D bytes pc (.aload k) 2 pc') (hl : Ls[k]? = some (.val v)) (hv : v.isRef = true) (G : Go p e below Q (T.setTop (mkF m pc' Ls (v :: st)))) : Go p e below Q (T.setTop (mkF m pc Ls st)) := by
  obtain ⟨hd, rfl⟩ := hd; exact Go.of (fun _ => XS.aload P.here P.hx rfl (P.dec hd) hl hv) G
theorem g_iconst (P : Pl p l e R s m args below meth c Z y bytes mx ret n0 T h cells slots) {i : Int} {v : Int32} (hd : D bytes pc (.iconst i) 1 pc') (hv : Int32.ofInt i = v) (G : Go p e below Q (T.setTop (mkF m pc' Ls (.int v :: st)))) : Go p e below Q (T.setTop (mkF m pc Ls st)) := by
  obtain ⟨hd, rfl⟩ := hd; subst hv; exact Go.of (fun _ => XS.iconst P.here P.hx rfl (P.dec hd)) G
theorem g_bipush (P : Pl p l e R s m args below meth c Z y bytes mx ret n0 T h cells slots) {i : Int} {v : Int32} (hd : D bytes pc (.bipush i) 2 pc') (hv : (Int8.ofInt i).toInt32 = v) (G : Go p e below Q (T.setTop (mkF m pc' Ls (.int v :: st)))) : Go p e below Q (T.setTop (mkF m pc Ls st)) := by
  obtain ⟨hd, rfl⟩ := hd; subst hv; exact Go.of (fun _ => XS.bipush P.here P.hx rfl (P.dec hd)) G
theorem g_aconstNull (P : Pl p l e R s m args below meth c Z y bytes mx ret n0 T h cells slots) (hd : D bytes pc .aconst_null 1 pc') (G : Go p e below Q (T.setTop (mkF m pc' Ls (.null :: st)))) : Go p e below Q (T.setTop (mkF m pc Ls st)) := by
  obtain ⟨hd, rfl⟩ := hd; exact Go.of (fun _ => XS.aconstNull P.here P.hx rfl (P.dec hd)) G
theorem g_iadd (P : Pl p l e R s m args below meth c Z y bytes mx ret n0 T h cells slots) {x z v : Int32} (hd : D bytes pc .iadd 1 pc') (hv : x + z = v) (G : Go p e below Q (T.setTop (mkF m pc' Ls (.int v :: st)))) : Go p e below Q (T.setTop (mkF m pc Ls (.int z :: .int x :: st))) := by
  obtain ⟨hd, rfl⟩ := hd; subst hv; exact Go.of (fun _ => XS.iadd P.here P.hx rfl (P.dec hd) rfl) G
theorem g_isub (P : Pl p l e R s m args below meth c Z y bytes mx ret n0 T h cells slots) {x z v : Int32} (hd : D bytes pc .isub 1 pc') (hv : x - z = v) (G : Go p e below Q (T.setTop (mkF m pc' Ls (.int v :: st)))) : Go p e below Q (T.setTop (mkF m pc Ls (.int z :: .int x :: st))) := by
  obtain ⟨hd, rfl⟩ := hd; subst hv; exact Go.of (fun _ => XS.isub P.here P.hx rfl (P.dec hd) rfl) G
theorem g_imul (P : Pl p l e R s m args below meth c Z y bytes mx ret n0 T h cells slots) {x z v : Int32} (hd : D bytes pc .imul 1 pc') (hv : x * z = v) (G : Go p e below Q (T.setTop (mkF m pc' Ls (.int v :: st)))) : Go p e below Q (T.setTop (mkF m pc Ls (.int z :: .int x :: st))) := by
  obtain ⟨hd, rfl⟩ := hd; subst hv; exact Go.of (fun _ => XS.imul P.here P.hx rfl (P.dec hd) rfl) G
theorem g_iand (P : Pl p l e R s m args below meth c Z y bytes mx ret n0 T h cells slots) {x z v : Int32} (hd : D bytes pc .iand 1 pc') (hv : x &&& z = v) (G : Go p e below Q (T.setTop (mkF m pc' Ls (.int v :: st)))) : Go p e below Q (T.setTop (mkF m pc Ls (.int z :: .int x :: st))) := by
  obtain ⟨hd, rfl⟩ := hd; subst hv; exact Go.of (fun _ => XS.iand P.here P.hx rfl (P.dec hd) rfl) G
theorem g_irem (P : Pl p l e R s m args below meth c Z y bytes mx ret n0 T h cells slots) {x z v : Int32} (hd : D bytes pc .irem 1 pc') (hz : z ≠ 0) (hv : x % z = v) (G : Go p e below Q (T.setTop (mkF m pc' Ls (.int v :: st)))) : Go p e below Q (T.setTop (mkF m pc Ls (.int z :: .int x :: st))) := by
  obtain ⟨hd, rfl⟩ := hd; subst hv; obtain ⟨-, _, X, -⟩ := id P; exact Go.of (fun _ => iremM X P.hx rfl (P.dec hd) rfl hz) G
theorem g_iushr (P : Pl p l e R s m args below meth c Z y bytes mx ret n0 T h cells slots) {x z v : Int32} (hd : D bytes pc .iushr 1 pc') (hv : XT.ushr x z = v) (G : Go p e below Q (T.setTop (mkF m pc' Ls (.int v :: st)))) : Go p e below Q (T.setTop (mkF m pc Ls (.int z :: .int x :: st))) := by
  obtain ⟨hd, rfl⟩ := hd; subst hv; exact Go.of (fun _ => XT.iushr P.here P.hx rfl (P.dec hd) rfl) G
theorem g_ineg (P : Pl p l e R s m args below meth c Z y bytes mx ret n0 T h cells slots) {x : Int32} (hd : D bytes pc .ineg 1 pc') (G : Go p e below Q (T.setTop (mkF m pc' Ls (.int (-x) :: st)))) : Go p e below Q (T.setTop (mkF m pc Ls (.int x :: st))) := by
  obtain ⟨hd, rfl⟩ := hd; exact Go.of (fun _ => XS.ineg P.here P.hx rfl (P.dec hd) rfl) G
theorem g_dup (P : Pl p l e R s m args below meth c Z y bytes mx ret n0 T h cells slots) {x : Value} (hd : D bytes pc .dup 1 pc') (hc : x.category = 1) (G : Go p e below Q (T.setTop (mkF m pc' Ls (x :: x :: st)))) : Go p e below Q (T.setTop (mkF m pc Ls (x :: st))) := by
  obtain ⟨hd, rfl⟩ := hd; exact Go.of (fun _ => XS.dup P.here P.hx rfl (P.dec hd) rfl hc) G
theorem g_pop (P : Pl p l e R s m args below meth c Z y bytes mx ret n0 T h cells slots) {x : Value} (hd : D bytes pc .pop 1 pc') (hc : x.category = 1) (G : Go p e below Q (T.setTop (mkF m pc' Ls st))) : Go p e below Q (T.setTop (mkF m pc Ls (x :: st))) := by
  obtain ⟨hd, rfl⟩ := hd; exact Go.of (fun _ => XT.pop P.here P.hx rfl (P.dec hd) rfl hc) G
theorem g_istoreN (P : Pl p l e R s m args below meth c Z y bytes mx ret n0 T h cells slots) {k : Fin 4} {x : Int32} (hd : D bytes pc (.istore_n k) 1 pc') (l' : Array Slot) (hl : storeLocals Ls k.val (.int x) = some l') (G : Go p e below Q (T.setTop (mkF m pc' l' st))) : Go p e below Q (T.setTop (mkF m pc Ls (.int x :: st))) := by
  obtain ⟨hd, rfl⟩ := hd; exact Go.of (fun _ => XS.istoreN P.here P.hx rfl (P.dec hd) rfl hl) G
theorem g_istore (P : Pl p l e R s m args below meth c Z y bytes mx ret n0 T h cells slots) {k : Nat} {x : Int32} (hd : D bytes pc (.istore k) 2 pc') (l' : Array Slot) (hl : storeLocals Ls k (.int x) = some l') (G : Go p e below Q (T.setTop (mkF m pc' l' st))) : Go p e below Q (T.setTop (mkF m pc Ls (.int x :: st))) := by
  obtain ⟨hd, rfl⟩ := hd; exact Go.of (fun _ => XS.istore P.here P.hx rfl (P.dec hd) rfl hl) G
theorem g_lstore (P : Pl p l e R s m args below meth c Z y bytes mx ret n0 T h cells slots) {k : Nat} {x : Int64} (hd : D bytes pc (.lstore k) 2 pc') (l' : Array Slot) (hl : storeLocals Ls k (.long x) = some l') (G : Go p e below Q (T.setTop (mkF m pc' l' st))) : Go p e below Q (T.setTop (mkF m pc Ls (.long x :: st))) := by
  obtain ⟨hd, rfl⟩ := hd; exact Go.of (fun _ => XT.lstore P.here P.hx rfl (P.dec hd) rfl hl) G
theorem g_astoreN (P : Pl p l e R s m args below meth c Z y bytes mx ret n0 T h cells slots) {k : Fin 4} {x : Value} (hd : D bytes pc (.astore_n k) 1 pc') (hv : x.isRef = true) (l' : Array Slot) (hl : storeLocals Ls k.val x = some l') (G : Go p e below Q (T.setTop (mkF m pc' l' st))) : Go p e below Q (T.setTop (mkF m pc Ls (x :: st))) := by
  obtain ⟨hd, rfl⟩ := hd; exact Go.of (fun _ => XS.astoreN P.here P.hx rfl (P.dec hd) rfl hv hl) G
theorem g_astore (P : Pl p l e R s m args below meth c Z y bytes mx ret n0 T h cells slots) {k : Nat} {x : Value} (hd : D bytes pc (.astore k) 2 pc') (hv : x.isRef = true) (l' : Array Slot) (hl : storeLocals Ls k x = some l') (G : Go p e below Q (T.setTop (mkF m pc' l' st))) : Go p e below Q (T.setTop (mkF m pc Ls (x :: st))) := by
  obtain ⟨hd, rfl⟩ := hd; exact Go.of (fun _ => XS.astore P.here P.hx rfl (P.dec hd) rfl hv hl) G
theorem g_iinc (P : Pl p l e R s m args below meth c Z y bytes mx ret n0 T h cells slots) {k : Nat} {cst : Int} {x w : Int32} (hd : D bytes pc (.iinc k cst) 3 pc') (hl : Ls[k]? = some (.val (.int x))) (hw : x + Int32.ofInt cst = w) (l' : Array Slot) (hl' : storeLocals Ls k (.int w) = some l') (G : Go p e below Q (T.setTop (mkF m pc' l' st))) : Go p e below Q (T.setTop (mkF m pc Ls st)) := by
  obtain ⟨hd, rfl⟩ := hd; subst hw; exact Go.of (fun _ => XS.iinc P.here P.hx rfl (P.dec hd) hl hl') G
theorem g_goto (P : Pl p l e R s m args below meth c Z y bytes mx ret n0 T h cells slots) {o : Int} {q : Nat} (hd : D bytes pc (.goto o) 3 q) (pc' : Nat) (ho : 0 ≤ (pc : Int) + o) (hp : ((pc : Int) + o).toNat = pc') (G : Go p e below Q (T.setTop (mkF m pc' Ls st))) : Go p e below Q (T.setTop (mkF m pc Ls st)) := by
  obtain ⟨hd, -⟩ := hd; exact Go.of (fun _ => XS.goto P.here P.hx rfl rfl (P.dec hd) ho hp) G
theorem g_ifYes (P : Pl p l e R s m args below meth c Z y bytes mx ret n0 T h cells slots) {cd : ClassFile.Cond} {x : Int32} {o : Int} {q : Nat} (hd : D bytes pc (.ifCond cd o) 3 q) (hc : ifCond.holds cd x = true) (pc' : Nat) (ho : 0 ≤ (pc : Int) + o) (hp : ((pc : Int) + o).toNat = pc') (G : Go p e below Q (T.setTop (mkF m pc' Ls st))) : Go p e below Q (T.setTop (mkF m pc Ls (.int x :: st))) := by
  obtain ⟨hd, -⟩ := hd; exact Go.of (fun _ => XS.ifYes P.here P.hx rfl rfl (P.dec hd) rfl hc ho hp) G
theorem g_ifNo (P : Pl p l e R s m args below meth c Z y bytes mx ret n0 T h cells slots) {cd : ClassFile.Cond} {x : Int32} {o : Int} (hd : D bytes pc (.ifCond cd o) 3 pc') (hc : ifCond.holds cd x = false) (G : Go p e below Q (T.setTop (mkF m pc' Ls st))) : Go p e below Q (T.setTop (mkF m pc Ls (.int x :: st))) := by
  obtain ⟨hd, rfl⟩ := hd; exact Go.of (fun _ => XS.ifNo P.here P.hx rfl (P.dec hd) rfl hc) G
theorem g_icmpYes (P : Pl p l e R s m args below meth c Z y bytes mx ret n0 T h cells slots) {cd : ClassFile.Cond} {x z : Int32} {o : Int} {q : Nat} (hd : D bytes pc (.if_icmp cd o) 3 q) (hc : if_icmp.holds cd x z = true) (pc' : Nat) (ho : 0 ≤ (pc : Int) + o) (hp : ((pc : Int) + o).toNat = pc') (G : Go p e below Q (T.setTop (mkF m pc' Ls st))) : Go p e below Q (T.setTop (mkF m pc Ls (.int z :: .int x :: st))) := by
  obtain ⟨hd, -⟩ := hd; exact Go.of (fun _ => XS.icmpYes P.here P.hx rfl rfl (P.dec hd) rfl hc ho hp) G
theorem g_icmpNo (P : Pl p l e R s m args below meth c Z y bytes mx ret n0 T h cells slots) {cd : ClassFile.Cond} {x z : Int32} {o : Int} (hd : D bytes pc (.if_icmp cd o) 3 pc') (hc : if_icmp.holds cd x z = false) (G : Go p e below Q (T.setTop (mkF m pc' Ls st))) : Go p e below Q (T.setTop (mkF m pc Ls (.int z :: .int x :: st))) := by
  obtain ⟨hd, rfl⟩ := hd; exact Go.of (fun _ => XS.icmpNo P.here P.hx rfl (P.dec hd) rfl hc) G
theorem g_acmpYes (P : Pl p l e R s m args below meth c Z y bytes mx ret n0 T h cells slots) {cd : ClassFile.ACond} {x z : Value} {o : Int} {q : Nat} (hd : D bytes pc (.if_acmp cd o) 3 q) (hx' : x.isRef = true) (hz' : z.isRef = true) (hc : XT.acmp cd x z = true) (pc' : Nat) (ho : 0 ≤ (pc : Int) + o) (hp : ((pc : Int) + o).toNat = pc') (G : Go p e below Q (T.setTop (mkF m pc' Ls st))) : Go p e below Q (T.setTop (mkF m pc Ls (z :: x :: st))) := by
  obtain ⟨hd, -⟩ := hd; exact Go.of (fun _ => XT.acmpYes P.here P.hx rfl rfl (P.dec hd) rfl hx' hz' hc ho hp) G
theorem g_acmpNo (P : Pl p l e R s m args below meth c Z y bytes mx ret n0 T h cells slots) {cd : ClassFile.ACond} {x z : Value} {o : Int} (hd : D bytes pc (.if_acmp cd o) 3 pc') (hx' : x.isRef = true) (hz' : z.isRef = true) (hc : XT.acmp cd x z = false) (G : Go p e below Q (T.setTop (mkF m pc' Ls st))) : Go p e below Q (T.setTop (mkF m pc Ls (z :: x :: st))) := by
  obtain ⟨hd, rfl⟩ := hd; exact Go.of (fun _ => XT.acmpNo P.here P.hx rfl (P.dec hd) rfl hx' hz' hc) G
theorem g_ldc (P : Pl p l e R s m args below meth c Z y bytes mx ret n0 T h cells slots) {index : Nat} {v : Int32} (hd : D bytes pc (.ldc index) 2 pc') (w : (Cond.constant y.cls index v).before a0 Z = true) (G : Go p e below Q (T.setTop (mkF m pc' Ls (.int v :: st)))) : Go p e below Q (T.setTop (mkF m pc Ls st)) := by
  obtain ⟨hd, rfl⟩ := hd; obtain ⟨-, _, X, -⟩ := id P; exact Go.of (fun _ => X.ldcI P.hx P.hown (mvT P.hZ w) rfl (P.dec hd)) G
/-! what the heap or the tables are asked -/
theorem g_getF (P : Pl p l e R s m args below meth c Z y bytes mx ret n0 T h cells slots) {R0 O n d host : String} {index : Nat} {a : Addr} {v : Value} (hd : D bytes pc (.getfield index) 3 pc') (w : (Cond.fieldLink y.cls index R0 n d).before a0 Z = true ∨ (Cond.fieldLinkNest y.cls index R0 n d host).before a0 Z = true) (via : Via Z R0 O n d) (F : Fld Z h a O n d v)
    (G : ∀ T', Pl p l e R s m args below meth c Z y bytes mx ret n0 T' h cells slots → Go p e below Q (T'.setTop (mkF m pc' Ls (v :: st)))) : Go p e below Q (T.setTop (mkF m pc Ls (.ref a :: st))) := by
  obtain ⟨hd, rfl⟩ := hd; obtain ⟨B, locs, X, N, eT⟩ := id P
  obtain ⟨T', X', e', stp⟩ := getF X P.hx P.hZ P.hown w via eT F (g := mkF m pc Ls (.ref a :: st)) rfl rfl (P.dec hd)
  exact Go.of stp (G T' ⟨B, locs, X', N, e'⟩)
theorem g_getS (P : Pl p l e R s m args below meth c Z y bytes mx ret n0 T h cells slots) {R0 O n d host : String} {index : Nat} {v : Value} (hd : D bytes pc (.getstatic index) 3 pc') (w : (Cond.fieldLink y.cls index R0 n d).before a0 Z = true ∨ (Cond.fieldLinkNest y.cls index R0 n d host).before a0 Z = true) (via : Via Z R0 O n d) (F : Sta Z h O n d v)
    (G : ∀ T', Pl p l e R s m args below meth c Z y bytes mx ret n0 T' h cells slots → Go p e below Q (T'.setTop (mkF m pc' Ls (v :: st)))) : Go p e below Q (T.setTop (mkF m pc Ls st)) := by
  obtain ⟨hd, rfl⟩ := hd; obtain ⟨B, locs, X, N, eT⟩ := id P
  obtain ⟨T', X', e', stp⟩ := getS2 X P.hx P.hZ P.hown w via eT F (g := mkF m pc Ls st) rfl (P.dec hd)
  exact Go.of stp (G T' ⟨B, locs, X', N, e'⟩)
theorem g_putF (P : Pl p l e R s m args below meth c Z y bytes mx ret n0 T h cells slots) {R0 O n d host C : String} {index kk : Nat} {ty : FieldType} {a : Addr} {v old : Value} (hd : D bytes pc (.putfield index) 3 pc') (w : (Cond.fieldLink y.cls index R0 n d).before a0 Z = true ∨ (Cond.fieldLinkNest y.cls index R0 n d host).before a0 Z = true) (via : Via Z R0 O n d) (F : Fld Z h a O n d old) (E : Exa Z h a C)
    (L : (Cond.lays C O n d).before a0 Z = true ∨ ((Cond.laysFinal C O n d).before a0 Z = true ∧ y.cls = O ∧ y.name = "<init>")) (wi : (Cond.instantiable C kk).before a0 Z = true) (hty : parseFieldDescriptor d = some ty) (hn : narrow ty v = v) (hf : fits ty v = true) (ge : n0 ≤ a)
    (G : ∀ T' h', Pl p l e R s m args below meth c Z y bytes mx ret n0 T' h' cells slots → Wr h h' a (Jvm.RoadKit.slotOf Z O n d) v → Go p e below Q (T'.setTop (mkF m pc' Ls st))) : Go p e below Q (T.setTop (mkF m pc Ls (v :: .ref a :: st))) := by
  obtain ⟨hd, rfl⟩ := hd; obtain ⟨B, locs, X, N, eT⟩ := id P
  obtain ⟨T', h', X', e', W, stp⟩ := putF X P.hx P.hZ P.hown w via eT F E (L.imp id fun q => ⟨q.1, q.2.1, P.hnm.trans q.2.2⟩) wi hty hn hf (g := mkF m pc Ls (v :: .ref a :: st)) rfl rfl (P.dec hd)
  exact Go.of stp (G T' h' ⟨B, _, X', Fr.snoc X' N ge, e'⟩ W)
theorem g_new (P : Pl p l e R s m args below meth c Z y bytes mx ret n0 T h cells slots) {C : String} {index n : Nat} (hd : D bytes pc (.new index) 3 pc') (w : (Cond.classLink y.cls index C).before a0 Z = true) (wi : (Cond.instantiable C n).before a0 Z = true) (wz : (Cond.initialized C).before a0 Z = true) (hc : cells + 1 ≤ R.cells) (hl : slots + n ≤ R.slots)
    (G : ∀ T' h' a, Pl p l e R s m args below meth c Z y bytes mx ret n0 T' h' (cells + 1) (slots + n) → h.size = a → Ext h h' → Exa Z h' a C → (∀ {O nm d : String} {ty : FieldType}, Laid Z a0 C O nm d → parseFieldDescriptor d = some ty → Fld Z h' a O nm d (defaultValue ty)) → Go p e below Q (T'.setTop (mkF m pc' Ls (.ref a :: st)))) : Go p e below Q (T.setTop (mkF m pc Ls st)) := by
  obtain ⟨hd, rfl⟩ := hd; obtain ⟨B, locs, X, N, eT⟩ := id P
  obtain ⟨T', h', X', e', E, A, F, -, stp⟩ := newO X P.hx P.hZ P.hown w wi wz eT (g := mkF m pc Ls st) rfl (P.dec hd) hc hl
  exact Go.of stp (G T' h' _ ⟨B, locs, X', N, e'⟩ rfl E A F)
theorem g_init (P : Pl p l e R s m args below meth c Z y bytes mx ret n0 T h cells slots) {idx : Nat} {a : Addr} (hd : D bytes pc (.invokespecial idx) 3 pc') (w1 : (Cond.methodLink y.cls idx Lib.objectInit).before a0 Z = true) (w2 : (Cond.instanceMethod Lib.objectInit).before a0 Z = true) (w3 : (Cond.code Lib.objectInit ⟨#[0xb1]⟩ 1 none).before a0 Z = true)
    (hs : Ls.size = mx) (hf : 1 ≤ R.frames) {W : Nat} (hW : (st.map fun v => v.category).sum = W) (hl : W + 12 ≤ R.locals)
    (G : ∀ T', Pl p l e R s m args below meth c Z y bytes mx ret n0 T' h cells slots → Go p e below Q (T'.setTop (mkF m pc' Ls st))) : Go p e below Q (T.setTop (mkF m pc Ls (.ref a :: st))) := by
  obtain ⟨hd, rfl⟩ := hd; obtain ⟨B, locs, X, N, eT⟩ := id P
  obtain ⟨T', X', e', stp⟩ := initO X P.hx P.hZ P.hown w1 w2 w3 eT (g := mkF m pc Ls (.ref a :: st)) rfl (by rw [P.hml]; exact hs) rfl (P.dec hd) hf (W := W) (by show 2 * 0 + _ ≤ W; omega) hl
  exact Go.of stp (G T' ⟨B, locs, X', N, e'⟩)
/-! what a body leaves; its contract; the ends -/
def Done (s : State) (R : Room) (n0 : Nat) (Qc : Option Value → Heap → Prop) (o : Outcome) (U : State) : Prop := ∃ v L, o = .returned v ∧ (Fr n0 L ∧ Qc v U.heap) ∧ FrameEnd s o U L R.cells R.slots
def Met (l : Launch) (Z : State) (y : MethodName) (bytes : ByteArray) (mx : Nat) (ret : Option FieldType) (rm : Room) (n0 : Nat) (as' : Array Value) (h : Heap) (Qc : Option Value → Heap → Prop) : Prop :=
  ∀ ws, MetFree l y (head1 (Jvm.Cond.code y bytes mx ret :: ws) rm) (fun a U => a = as' ∧ Z.Warmed39 U.vm ∧ U.heap = h) (fun _ _ _ _ _ => True) (fun _ U o U' => ∃ v L, o = .returned v ∧ (Fr n0 L ∧ Qc v U'.heap) ∧ FrameEnd U o U' L rm.cells rm.slots)
theorem Met.intro {Qc : Option Value → Heap → Prop} {rm : Room} {as' : Array Value} (pn : plainFor y = true)
    (body : ∀ p e s m below meth c T, Pl p l e rm s m as' below meth c Z y bytes mx ret n0 T h 0 0 → Go p e below (Done s rm n0 Qc) (T.setTop (entryFrame m as' mx))) : Met l Z y bytes mx ret rm n0 as' h Qc := by
  intro ws
  refine MetFree.of_bodySF pn hisR ?_
  intro p e s m args below meth c s₁ Bd hml0 hP hK
  obtain ⟨rfl, hZ, hh⟩ := hP
  have X0 : Stand p l e rm s m args below meth c s₁ [] 0 0 := Stand.of_body Bd
  have e0 : s₁.heap = h := by rw [← hh, Bd.state]; rfl
  exact body p e s m below meth c s₁ ⟨⟨Bd.exec, hZ, findClass_of_methodNamed Bd.named, (name_of_methodNamed Bd.named Bd.method).1, Bd.bytes, hml0, Bd.returns, BodyLoose.notSynchronized Bd⟩, [], X0, Fr.nil n0, e0⟩
theorem Go.cast {g g' : JFrame} (q : g = g') (G : Go p e below Q (T.setTop g')) : Go p e below Q (T.setTop g) := q ▸ G
theorem Go.fin {Qc : Option Value → Heap → Prop} {v : Option Value} {g : JFrame} (P : Pl p l e R s m args below meth c Z y bytes mx ret n0 T h cells slots) (hv : ret = none → v = none) (hc : cells ≤ R.cells) (hl : slots ≤ R.slots)
    (k : ∀ fs, (∀ (f : JFrame) (acts : List Action), f.method = m → f.locked = none → f.entered = [] → (doReturn e (T.setTop f) acts v).1 = T.setFrames fs) → Steps p.tables e below (T.setTop g) (T.setFrames fs)) (q : Qc v h) : Go p e below (Done s R n0 Qc) (T.setTop g) := by
  obtain ⟨B, locs, X, N, eT⟩ := id P
  obtain ⟨fs, hr, hrun, hended, hW, hsame⟩ := X.leave (v := v) (fun q => hv (P.hrt.symm.trans q)) P.hlk
  exact ⟨_, _, k fs hr, hrun, hended, v, locs, rfl, ⟨N, by show Qc v T.heap; rw [eT]; exact q⟩, ⟨_, rfl⟩, hW, hsame.mono hc hl⟩
theorem g_retI {Qc : Option Value → Heap → Prop} {z : Int32} (P : Pl p l e R s m args below meth c Z y bytes mx (some .int) n0 T h cells slots) (hd : D bytes pc .ireturn 1 pc') (hc : cells ≤ R.cells) (hl : slots ≤ R.slots) (q : Qc (some (.int z)) h) : Go p e below (Done s R n0 Qc) (T.setTop (mkF m pc Ls (.int z :: st))) := by
  obtain ⟨B, locs, X, N, eT⟩ := id P
  exact Go.fin P (fun q => by cases q) hc hl (fun fs hr => retOut X P.hx P.hrt rfl (Or.inl ⟨rfl, Or.inl rfl, _, rfl⟩) (P.dec hd.1) hr) q
theorem g_retZ {Qc : Option Value → Heap → Prop} {z : Int32} (P : Pl p l e R s m args below meth c Z y bytes mx (some .boolean) n0 T h cells slots) (hd : D bytes pc .ireturn 1 pc') (hz : z &&& 1 = z) (hc : cells ≤ R.cells) (hl : slots ≤ R.slots) (q : Qc (some (.int z)) h) : Go p e below (Done s R n0 Qc) (T.setTop (mkF m pc Ls (.int z :: st))) := by
  obtain ⟨B, locs, X, N, eT⟩ := id P
  exact Go.fin P (fun q => by cases q) hc hl (fun fs hr => retN X P.hx (t := .boolean) P.hrt (by simp) (P.dec hd.1) (by show ∀ (f : JFrame) (acts : List Action), _ → _ → _ → (doReturn e (T.setTop f) acts (some (.int (z &&& 1)))).1 = _; rw [hz]; exact hr)) q
theorem g_retA {Qc : Option Value → Heap → Prop} {w : Value} {t : FieldType} (P : Pl p l e R s m args below meth c Z y bytes mx (some t) n0 T h cells slots) (hd : D bytes pc .areturn 1 pc') (ht : t.isReference = true) (hw : w.isRef = true) (hn : narrow t w = w) (hc : cells ≤ R.cells) (hl : slots ≤ R.slots) (q : Qc (some w) h) : Go p e below (Done s R n0 Qc) (T.setTop (mkF m pc Ls (w :: st))) := by
  obtain ⟨B, locs, X, N, eT⟩ := id P
  exact Go.fin P (fun q => by cases q) hc hl (fun fs hr => retOut X P.hx P.hrt hn (Or.inr (Or.inr (Or.inr (Or.inr ⟨rfl, ht, hw⟩)))) (P.dec hd.1) hr) q
theorem g_ret {Qc : Option Value → Heap → Prop} (P : Pl p l e R s m args below meth c Z y bytes mx none n0 T h cells slots) (hd : D bytes pc .return_ 1 pc') (hc : cells ≤ R.cells) (hl : slots ≤ R.slots) (q : Qc none h) : Go p e below (Done s R n0 Qc) (T.setTop (mkF m pc Ls [])) := by
  obtain ⟨B, locs, X, N, eT⟩ := id P
  exact Go.fin P (fun _ => rfl) hc hl (fun fs hr => X.returnOut P.hx P.hrt (P.dec hd.1) hr) q
/-! the calls -/
theorem g_static (P : Pl p l e R s m args below meth c Z y bytes mx ret n0 T h cells slots) {y' : MethodName} {bytes' : ByteArray} {mx' : Nat} {ret' : Option FieldType} {rm : Room} {Qc : Option Value → Heap → Prop} {index : Nat} {ps : List FieldType} {r : Option FieldType} (argsL : List Value) {stk rest : List Value} {W : Nat}
    (hd : D bytes pc (.invokestatic index) 3 pc') (w1 : (Cond.methodLink y.cls index y').before a0 Z = true) (w2 : (Cond.static y').before a0 Z = true) (w3 : (Cond.initialized y'.cls).before a0 Z = true) (w4 : (Cond.code y' bytes' mx' ret').before a0 Z = true) (hy : y'.cls ≠ "java/lang/invoke/MethodHandle" ∧ y'.cls ≠ "java/lang/invoke/VarHandle")
    (M : Met l Z y' bytes' mx' ret' rm n0 argsL.toArray h Qc) (pd : parseMethodDescriptor y'.desc = some ⟨ps, r⟩) (hl : argsL.length = ps.length) (hs : stk = argsL.reverse ++ rest) (hmx : Ls.size = mx) (hW : (rest.map fun v => v.category).sum = W)
    (hf : rm.frames + 1 ≤ R.frames) (hlo : W + (mx' + 11) + rm.locals ≤ R.locals) (hc : cells + rm.cells ≤ R.cells) (hsl : slots + rm.slots ≤ R.slots)
    (G : ∀ v T' h', Pl p l e R s m args below meth c Z y bytes mx ret n0 T' h' (cells + rm.cells) (slots + rm.slots) → Qc v h' → Go p e below Q (T'.setTop (mkF m pc' Ls (v.toList ++ rest)))) : Go p e below Q (T.setTop (mkF m pc Ls stk)) := by
  obtain ⟨hd, rfl⟩ := hd; obtain ⟨B, locs, X, N, eT⟩ := id P
  obtain ⟨v, _, ⟨T', L', k', n'⟩, -, X', ⟨Lc, hQ, l', y'', z'⟩, stp⟩ := Jvm.LawKit.callS X P.hx (y := y') P.hown (mvT P.hZ w1) (mvT P.hZ w2) (mvT P.hZ w3) (mvT P.hZ w4) hy (backOf (W := W) (Q := fun v h L => Fr n0 L ∧ Qc v h) (M []) P.hZ w4 w3 hf hlo) (g := mkF m pc Ls stk) rfl (by rw [P.hml]; exact hmx) (argsL := argsL) (rest := rest) (lenOf pd hl) hs (by show 2 * 0 + _ ≤ W; omega) (P.dec hd) (fun _ _ => ⟨rfl, eT, hc, hsl⟩)
  dsimp only [Pt.U, Pt.locs, Pt.cells, Pt.slots] at X' l' y'' z' stp hQ
  subst l' y'' z'
  exact Go.of stp (G v T' T'.heap ⟨B, _, X', Fr.app N hQ.1, rfl⟩ hQ.2)
theorem g_special (P : Pl p l e R s m args below meth c Z y bytes mx ret n0 T h cells slots) {y' : MethodName} {bytes' : ByteArray} {mx' : Nat} {rm : Room} {Qc : Option Value → Heap → Prop} {index : Nat} {ps : List FieldType} {r : Option FieldType} (a : Addr) (argsL : List Value) {stk rest : List Value} {W : Nat}
    (hd : D bytes pc (.invokespecial index) 3 pc') (hin : y'.name = "<init>") (w1 : (Cond.methodLink y.cls index y').before a0 Z = true) (w2 : (Cond.instanceMethod y').before a0 Z = true) (w3 : (Cond.initialized y'.cls).before a0 Z = true) (w4 : (Cond.code y' bytes' mx' none).before a0 Z = true) (hy : y'.cls ≠ "java/lang/invoke/MethodHandle" ∧ y'.cls ≠ "java/lang/invoke/VarHandle")
    (M : Met l Z y' bytes' mx' none rm n0 (.ref a :: argsL).toArray h Qc) (pd : parseMethodDescriptor y'.desc = some ⟨ps, r⟩) (hl : argsL.length = ps.length) (hs : stk = argsL.reverse ++ .ref a :: rest) (hmx : Ls.size = mx) (hW : (rest.map fun v => v.category).sum = W)
    (hf : rm.frames + 1 ≤ R.frames) (hlo : W + (mx' + 11) + rm.locals ≤ R.locals) (hc : cells + rm.cells ≤ R.cells) (hsl : slots + rm.slots ≤ R.slots)
    (G : ∀ v T' h', Pl p l e R s m args below meth c Z y bytes mx ret n0 T' h' (cells + rm.cells) (slots + rm.slots) → Qc v h' → Go p e below Q (T'.setTop (mkF m pc' Ls (v.toList ++ rest)))) : Go p e below Q (T.setTop (mkF m pc Ls stk)) := by
  obtain ⟨hd, rfl⟩ := hd; obtain ⟨B, locs, X, N, eT⟩ := id P
  obtain ⟨v, _, ⟨T', L', k', n'⟩, -, X', ⟨Lc, hQ, l', y'', z'⟩, stp⟩ := X.specialBack P.hx (y := y') hin P.hown (mvT P.hZ w1) (mvT P.hZ w2) (mvT P.hZ w4) hy (backOf (W := W) (Q := fun v h L => Fr n0 L ∧ Qc v h) (M []) P.hZ w4 w3 hf hlo) (g := mkF m pc Ls stk) rfl (by rw [P.hml]; exact hmx) (Steps.refl _) (a := a) (argsL := argsL) (rest := rest) (lenOf pd hl) hs (by show 2 * 0 + _ ≤ W; omega) (P.dec hd) (fun _ _ => ⟨rfl, eT, hc, hsl⟩)
  dsimp only [Pt.U, Pt.locs, Pt.cells, Pt.slots] at X' l' y'' z' stp hQ
  subst l' y'' z'
  exact Go.tr stp (G v T' T'.heap ⟨B, _, X', Fr.app N hQ.1, rfl⟩ hQ.2)
theorem g_virtual (P : Pl p l e R s m args below meth c Z y bytes mx ret n0 T h cells slots) {y' : MethodName} {C : String} {bytes' : ByteArray} {mx' : Nat} {ret' : Option FieldType} {rm : Room} {Qc : Option Value → Heap → Prop} {index : Nat} {ps : List FieldType} {r : Option FieldType} (a : Addr) (argsL : List Value) {stk rest : List Value} {W : Nat}
    (hd : D bytes pc (.invokevirtual index) 3 pc') (w1 : (Cond.methodLink y.cls index y').before a0 Z = true) (w2 : (Cond.declares y').before a0 Z = true) (w3 : (Cond.selects C y' y').before a0 Z = true) (w4 : (Cond.instanceMethod y').before a0 Z = true) (w5 : (Cond.initialized y'.cls).before a0 Z = true) (w6 : (Cond.code y' bytes' mx' ret').before a0 Z = true) (hy : y'.cls ≠ "java/lang/invoke/MethodHandle" ∧ y'.cls ≠ "java/lang/invoke/VarHandle")
    (E : Exa Z h a C) (M : Met l Z y' bytes' mx' ret' rm n0 (.ref a :: argsL).toArray h Qc) (pd : parseMethodDescriptor y'.desc = some ⟨ps, r⟩) (hl : argsL.length = ps.length) (hs : stk = argsL.reverse ++ .ref a :: rest) (hmx : Ls.size = mx) (hW : (rest.map fun v => v.category).sum = W)
    (hf : rm.frames + 1 ≤ R.frames) (hlo : W + (mx' + 11) + rm.locals ≤ R.locals) (hc : cells + rm.cells ≤ R.cells) (hsl : slots + rm.slots ≤ R.slots)
    (G : ∀ v T' h', Pl p l e R s m args below meth c Z y bytes mx ret n0 T' h' (cells + rm.cells) (slots + rm.slots) → Qc v h' → Go p e below Q (T'.setTop (mkF m pc' Ls (v.toList ++ rest)))) : Go p e below Q (T.setTop (mkF m pc Ls stk)) := by
  obtain ⟨hd, rfl⟩ := hd; obtain ⟨B, locs, X, N, eT⟩ := id P
  obtain ⟨cq, kq, qa, qb, qc⟩ := isOf P.hZ eT E
  obtain ⟨v, _, ⟨T', L', k', n'⟩, -, X', ⟨Lc, hQ, l', y'', z'⟩, stp⟩ := X.virtualBack P.hx (y := y') (z := y') P.hown (mvT P.hZ w1) (mvT P.hZ w2) (notFace_of_selects (args := #[]) (mvT P.hZ w3)) (mvT P.hZ w3) (mvT P.hZ w4) hy (backOf (W := W) (Q := fun v h L => Fr n0 L ∧ Qc v h) (M []) P.hZ w6 w5 hf hlo) qa qc (g := mkF m pc Ls stk) rfl (by rw [P.hml]; exact hmx) (Steps.refl _) (argsL := argsL) (rest := rest) (lenOf pd hl) hs (by show 2 * 0 + _ ≤ W; omega) (P.dec hd) (fun _ _ => ⟨rfl, eT, hc, hsl⟩)
  dsimp only [Pt.U, Pt.locs, Pt.cells, Pt.slots] at X' l' y'' z' stp hQ
  subst l' y'' z'
  exact Go.tr stp (G v T' T'.heap ⟨B, _, X', Fr.app N hQ.1, rfl⟩ hQ.2)
end OwnGo
/-! OWN 2: small facts -/
section OwnSmall
variable {args : Array Value} {Z : State} {a b : Addr}
theorem ac_t (h : a = b) : XT.acmp .eq (.ref a) (.ref b) = true ∧ XT.acmp .ne (.ref a) (.ref b) = false := ⟨decide_eq_true (by rw [h]), decide_eq_false (fun q => q (by rw [h]))⟩
theorem ac_f (h : ¬ a = b) : XT.acmp .eq (.ref a) (.ref b) = false ∧ XT.acmp .ne (.ref a) (.ref b) = true := ⟨decide_eq_false (fun q => h (by cases q; rfl)), decide_eq_true (fun q => h (by cases q; rfl))⟩
theorem eqI {t : Term} {z : Int32} (h : (Cond.eq t (.int z)).value args Z none Z [] = some true) : t.eval args Z none [] Z = some (.int z) := Cond.eq_int (Cond.before_iff.mpr h) rfl
theorem dT {q : Prop} [Decidable q] (h : decide q = true) : q := of_decide_eq_true h
theorem nN (h : @Ne Nat a b) : a ≠ b := h
theorem ltN {n : Nat} (h : a < n) : @LT.lt Nat _ a n := h
theorem i32_of {i j : Int32} (h : i.toInt = j.toInt) : i = j := Int32.toInt_inj.mp h
theorem rem_mask (k n : Int32) (hn : 0 < n.toInt) : 0 ≤ ((k &&& 2147483647) % n).toInt ∧ ((k &&& 2147483647) % n).toInt < n.toInt := by
  rw [Jvm.Kit.i32_rem_nonneg (by rw [Jvm.Kit.i32_mask k 2147483647 (k := 31) (by decide) (by decide)]; exact Int.emod_nonneg _ (by decide))]
  exact ⟨Int.emod_nonneg _ (by omega), Int.emod_lt_of_pos _ hn⟩
theorem mask_nn (k : Int32) : ¬ (k &&& (2147483647 : Int32)) < 0 := by
  rw [Int32.lt_iff_toInt_lt, Jvm.Kit.i32_mask k 2147483647 (k := 31) (by decide) (by decide)]
  have : (0 : Int32).toInt = 0 := rfl
  have := Int.emod_nonneg k.toInt (show (2 ^ 31 : Int) ≠ 0 by decide)
  omega
theorem cases3 {i : Int32} (h : 0 ≤ i.toInt ∧ i.toInt < (3 : Int32).toInt) : i = 0 ∨ i = 1 ∨ i = 2 := by
  have h5 : (3 : Int32).toInt = 3 := rfl
  rcases (by omega : i.toInt = 0 ∨ i.toInt = 1 ∨ i.toInt = 2) with q | q | q
  · exact Or.inl (i32_of q)
  · exact Or.inr (Or.inl (i32_of q))
  · exact Or.inr (Or.inr (i32_of q))
theorem sta_keep {h h' : Heap} {C n d : String} {v : Value} {ws : List Addr} (F : Sta Z h C n d v) (K : Keep h h' ws) (q : ∀ x ∈ ws, ∃ c : Cell, h[x]? = some c ∧ c.vm.isStatics = false) : Sta Z h' C n d v := by
  obtain ⟨cf, i, k, f, st, cell, h1, h2, h3, h4, h5, h6, h7⟩ := F
  refine ⟨cf, i, k, f, st, cell, h1, h2, h3, h4, K.2.1 st cell h5 fun r => ?_, h6, h7⟩
  obtain ⟨c, q1, q2⟩ := q st r
  cases h5.symm.trans q1
  rw [h6] at q2; cases q2
theorem plain1 {h : Heap} {C : String} (A : Exa Z h a C) : ∀ x ∈ [a], ∃ c : Cell, h[x]? = some c ∧ c.vm.isStatics = false := fun x hx => by
  cases List.mem_singleton.mp hx; obtain ⟨c, _, q, -, -, r, -⟩ := A; exact ⟨c, q, r⟩
theorem cases4 {i : Int32} (h : 0 ≤ i.toInt ∧ i.toInt < (4 : Int32).toInt) : i = 0 ∨ i = 1 ∨ i = 2 ∨ i = 3 := by
  have h5 : (4 : Int32).toInt = 4 := rfl
  rcases (by omega : i.toInt = 0 ∨ i.toInt = 1 ∨ i.toInt = 2 ∨ i.toInt = 3) with q | q | q | q
  · exact Or.inl (i32_of q)
  · exact Or.inr (Or.inl (i32_of q))
  · exact Or.inr (Or.inr (Or.inl (i32_of q)))
  · exact Or.inr (Or.inr (Or.inr (i32_of q)))
theorem cases5 {i : Int32} (h : 0 ≤ i.toInt ∧ i.toInt < (5 : Int32).toInt) : i = 0 ∨ i = 1 ∨ i = 2 ∨ i = 3 ∨ i = 4 := by
  have h5 : (5 : Int32).toInt = 5 := rfl
  rcases (by omega : i.toInt = 0 ∨ i.toInt = 1 ∨ i.toInt = 2 ∨ i.toInt = 3 ∨ i.toInt = 4) with q | q | q | q | q
  · exact Or.inl (i32_of q)
  · exact Or.inr (Or.inl (i32_of q))
  · exact Or.inr (Or.inr (Or.inl (i32_of q)))
  · exact Or.inr (Or.inr (Or.inr (Or.inl (i32_of q))))
  · exact Or.inr (Or.inr (Or.inr (Or.inr (i32_of q))))
theorem cases7 {i : Int32} (h : 0 ≤ i.toInt ∧ i.toInt < (7 : Int32).toInt) : i = 0 ∨ i = 1 ∨ i = 2 ∨ i = 3 ∨ i = 4 ∨ i = 5 ∨ i = 6 := by
  have h5 : (7 : Int32).toInt = 7 := rfl
  rcases (by omega : i.toInt = 0 ∨ i.toInt = 1 ∨ i.toInt = 2 ∨ i.toInt = 3 ∨ i.toInt = 4 ∨ i.toInt = 5 ∨ i.toInt = 6) with q | q | q | q | q | q | q
  · exact Or.inl (i32_of q)
  · exact Or.inr (Or.inl (i32_of q))
  · exact Or.inr (Or.inr (Or.inl (i32_of q)))
  · exact Or.inr (Or.inr (Or.inr (Or.inl (i32_of q))))
  · exact Or.inr (Or.inr (Or.inr (Or.inr (Or.inl (i32_of q)))))
  · exact Or.inr (Or.inr (Or.inr (Or.inr (Or.inr (Or.inl (i32_of q))))))
  · exact Or.inr (Or.inr (Or.inr (Or.inr (Or.inr (Or.inr (i32_of q))))))
end OwnSmall
/-! OWN 3: more steps: longs, null tests, a switch, arrays as lists, casts -/
section OwnMore
variable {p : Program} {l : Launch} {e : Env} {R : Room} {s : State} {m : MethodId} {args : Array Value} {below : List Frame} {meth : Method} {c : Code} {Z : State} {y : MethodName} {bytes : ByteArray} {mx : Nat} {ret : Option FieldType} {n0 : Nat} {T T' : State} {h h' : Heap} {cells slots : Nat} {Q : Outcome → State → Prop} {pc pc' : Nat} {Ls : Array Slot} {st : List Value} {a0 : Array Value}
theorem g_sipush (P : Pl p l e R s m args below meth c Z y bytes mx ret n0 T h cells slots) {i : Int} {v : Int32} (hd : D bytes pc (.sipush i) 3 pc') (hv : (Int16.ofInt i).toInt32 = v) (G : Go p e below Q (T.setTop (mkF m pc' Ls (.int v :: st)))) : Go p e below Q (T.setTop (mkF m pc Ls st)) := by
  obtain ⟨hd, rfl⟩ := hd; subst hv; exact Go.of (fun _ => XS.sipush P.here P.hx rfl (P.dec hd)) G
theorem g_lconst (P : Pl p l e R s m args below meth c Z y bytes mx ret n0 T h cells slots) {k : Fin 2} {v : Int64} (hd : D bytes pc (.lconst k) 1 pc') (hv : Int64.ofNat k = v) (G : Go p e below Q (T.setTop (mkF m pc' Ls (.long v :: st)))) : Go p e below Q (T.setTop (mkF m pc Ls st)) := by
  obtain ⟨hd, rfl⟩ := hd; subst hv; exact Go.of (fun _ => XT.lconst P.here P.hx rfl (P.dec hd)) G
theorem g_ldc2 (P : Pl p l e R s m args below meth c Z y bytes mx ret n0 T h cells slots) {index : Nat} {v : Int64} (hd : D bytes pc (.ldc2_w index) 3 pc') (w : (Cond.constantLong y.cls index v).before a0 Z = true) (G : Go p e below Q (T.setTop (mkF m pc' Ls (.long v :: st)))) : Go p e below Q (T.setTop (mkF m pc Ls st)) := by
  obtain ⟨hd, rfl⟩ := hd; obtain ⟨-, _, X, -⟩ := id P; exact Go.of (fun _ => X.ldc2J P.hx P.hown (mvT P.hZ w) rfl (P.dec hd)) G
theorem g_ladd (P : Pl p l e R s m args below meth c Z y bytes mx ret n0 T h cells slots) {x z : Int64} (hd : D bytes pc .ladd 1 pc') (G : Go p e below Q (T.setTop (mkF m pc' Ls (.long (x + z) :: st)))) : Go p e below Q (T.setTop (mkF m pc Ls (.long z :: .long x :: st))) := by
  obtain ⟨hd, rfl⟩ := hd; exact Go.of (fun _ => XT.ladd P.here P.hx rfl (P.dec hd) rfl) G
theorem g_lsub (P : Pl p l e R s m args below meth c Z y bytes mx ret n0 T h cells slots) {x z : Int64} (hd : D bytes pc .lsub 1 pc') (G : Go p e below Q (T.setTop (mkF m pc' Ls (.long (x - z) :: st)))) : Go p e below Q (T.setTop (mkF m pc Ls (.long z :: .long x :: st))) := by
  obtain ⟨hd, rfl⟩ := hd; exact Go.of (fun _ => XT.lsub P.here P.hx rfl (P.dec hd) rfl) G
theorem g_lcmp (P : Pl p l e R s m args below meth c Z y bytes mx ret n0 T h cells slots) {x z : Int64} (hd : D bytes pc .lcmp 1 pc') (G : Go p e below Q (T.setTop (mkF m pc' Ls (.int (XT.cmpL x z) :: st)))) : Go p e below Q (T.setTop (mkF m pc Ls (.long z :: .long x :: st))) := by
  obtain ⟨hd, rfl⟩ := hd; exact Go.of (fun _ => XT.lcmp P.here P.hx rfl (P.dec hd) rfl) G
theorem g_i2l (P : Pl p l e R s m args below meth c Z y bytes mx ret n0 T h cells slots) {x : Int32} (hd : D bytes pc .i2l 1 pc') (G : Go p e below Q (T.setTop (mkF m pc' Ls (.long (x).toInt64 :: st)))) : Go p e below Q (T.setTop (mkF m pc Ls (.int x :: st))) := by
  obtain ⟨hd, rfl⟩ := hd; exact Go.of (fun _ => XT.i2l P.here P.hx rfl (P.dec hd) rfl) G
theorem g_l2i (P : Pl p l e R s m args below meth c Z y bytes mx ret n0 T h cells slots) {x : Int64} (hd : D bytes pc .l2i 1 pc') (G : Go p e below Q (T.setTop (mkF m pc' Ls (.int (x).toInt32 :: st)))) : Go p e below Q (T.setTop (mkF m pc Ls (.long x :: st))) := by
  obtain ⟨hd, rfl⟩ := hd; exact Go.of (fun _ => XT.l2i P.here P.hx rfl (P.dec hd) rfl) G
theorem g_i2b (P : Pl p l e R s m args below meth c Z y bytes mx ret n0 T h cells slots) {x : Int32} (hd : D bytes pc .i2b 1 pc') (G : Go p e below Q (T.setTop (mkF m pc' Ls (.int (x).toInt8.toInt32 :: st)))) : Go p e below Q (T.setTop (mkF m pc Ls (.int x :: st))) := by
  obtain ⟨hd, rfl⟩ := hd; exact Go.of (fun _ => XT.i2b P.here P.hx rfl (P.dec hd) rfl) G
theorem g_idiv (P : Pl p l e R s m args below meth c Z y bytes mx ret n0 T h cells slots) {x z v : Int32} (hd : D bytes pc .idiv 1 pc') (hz : z ≠ 0) (hv : x / z = v) (G : Go p e below Q (T.setTop (mkF m pc' Ls (.int v :: st)))) : Go p e below Q (T.setTop (mkF m pc Ls (.int z :: .int x :: st))) := by
  obtain ⟨hd, rfl⟩ := hd; subst hv; exact Go.of (fun _ => XS.idiv P.here P.hx rfl (P.dec hd) rfl hz) G
theorem g_ior (P : Pl p l e R s m args below meth c Z y bytes mx ret n0 T h cells slots) {x z v : Int32} (hd : D bytes pc .ior 1 pc') (hv : x ||| z = v) (G : Go p e below Q (T.setTop (mkF m pc' Ls (.int v :: st)))) : Go p e below Q (T.setTop (mkF m pc Ls (.int z :: .int x :: st))) := by
  obtain ⟨hd, rfl⟩ := hd; subst hv; exact Go.of (fun _ => XT.ior P.here P.hx rfl (P.dec hd) rfl) G
theorem g_ixor (P : Pl p l e R s m args below meth c Z y bytes mx ret n0 T h cells slots) {x z v : Int32} (hd : D bytes pc .ixor 1 pc') (hv : x ^^^ z = v) (G : Go p e below Q (T.setTop (mkF m pc' Ls (.int v :: st)))) : Go p e below Q (T.setTop (mkF m pc Ls (.int z :: .int x :: st))) := by
  obtain ⟨hd, rfl⟩ := hd; subst hv; exact Go.of (fun _ => XT.ixor P.here P.hx rfl (P.dec hd) rfl) G
theorem g_ishl (P : Pl p l e R s m args below meth c Z y bytes mx ret n0 T h cells slots) {x z v : Int32} (hd : D bytes pc .ishl 1 pc') (hv : x <<< (z &&& 31) = v) (G : Go p e below Q (T.setTop (mkF m pc' Ls (.int v :: st)))) : Go p e below Q (T.setTop (mkF m pc Ls (.int z :: .int x :: st))) := by
  obtain ⟨hd, rfl⟩ := hd; subst hv; exact Go.of (fun _ => XT.ishl P.here P.hx rfl (P.dec hd) rfl) G
theorem g_ishr (P : Pl p l e R s m args below meth c Z y bytes mx ret n0 T h cells slots) {x z v : Int32} (hd : D bytes pc .ishr 1 pc') (hv : x >>> (z &&& 31) = v) (G : Go p e below Q (T.setTop (mkF m pc' Ls (.int v :: st)))) : Go p e below Q (T.setTop (mkF m pc Ls (.int z :: .int x :: st))) := by
  obtain ⟨hd, rfl⟩ := hd; subst hv; exact Go.of (fun _ => XT.ishr P.here P.hx rfl (P.dec hd) rfl) G
theorem g_dupX1 (P : Pl p l e R s m args below meth c Z y bytes mx ret n0 T h cells slots) {x z : Value} (hd : D bytes pc .dup_x1 1 pc') (hc : x.category = 1) (hc' : z.category = 1) (G : Go p e below Q (T.setTop (mkF m pc' Ls (x :: z :: x :: st)))) : Go p e below Q (T.setTop (mkF m pc Ls (x :: z :: st))) := by
  obtain ⟨hd, rfl⟩ := hd; exact Go.of (fun _ => XT.dupX1 P.here P.hx rfl (P.dec hd) rfl hc hc') G
theorem g_dup2 (P : Pl p l e R s m args below meth c Z y bytes mx ret n0 T h cells slots) {x z : Value} (hd : D bytes pc .dup2 1 pc') (hc : x.category = 1) (hc' : z.category = 1) (G : Go p e below Q (T.setTop (mkF m pc' Ls (x :: z :: x :: z :: st)))) : Go p e below Q (T.setTop (mkF m pc Ls (x :: z :: st))) := by
  obtain ⟨hd, rfl⟩ := hd; exact Go.of (fun _ => XT.dup2 P.here P.hx rfl (P.dec hd) rfl hc hc') G
theorem g_ifnullYes (P : Pl p l e R s m args below meth c Z y bytes mx ret n0 T h cells slots) {o : Int} {q : Nat} (hd : D bytes pc (.ifnull o) 3 q) (pc' : Nat) (ho : 0 ≤ (pc : Int) + o) (hp : ((pc : Int) + o).toNat = pc') (G : Go p e below Q (T.setTop (mkF m pc' Ls st))) : Go p e below Q (T.setTop (mkF m pc Ls (.null :: st))) := by
  obtain ⟨hd, -⟩ := hd; exact Go.of (fun _ => XS.ifnullYes P.here P.hx rfl rfl (P.dec hd) rfl ho hp) G
theorem g_ifnullNo (P : Pl p l e R s m args below meth c Z y bytes mx ret n0 T h cells slots) {o : Int} {b : Addr} (hd : D bytes pc (.ifnull o) 3 pc') (G : Go p e below Q (T.setTop (mkF m pc' Ls st))) : Go p e below Q (T.setTop (mkF m pc Ls (.ref b :: st))) := by
  obtain ⟨hd, rfl⟩ := hd; exact Go.of (fun _ => XS.ifnullNo P.here P.hx rfl (P.dec hd) rfl) G
theorem g_ifnonnullYes (P : Pl p l e R s m args below meth c Z y bytes mx ret n0 T h cells slots) {o : Int} {q : Nat} {b : Addr} (hd : D bytes pc (.ifnonnull o) 3 q) (pc' : Nat) (ho : 0 ≤ (pc : Int) + o) (hp : ((pc : Int) + o).toNat = pc') (G : Go p e below Q (T.setTop (mkF m pc' Ls st))) : Go p e below Q (T.setTop (mkF m pc Ls (.ref b :: st))) := by
  obtain ⟨hd, -⟩ := hd; exact Go.of (fun _ => XT.ifnonnullYes P.here P.hx rfl rfl (P.dec hd) rfl ho hp) G
theorem g_ifnonnullNo (P : Pl p l e R s m args below meth c Z y bytes mx ret n0 T h cells slots) {o : Int} (hd : D bytes pc (.ifnonnull o) 3 pc') (G : Go p e below Q (T.setTop (mkF m pc' Ls st))) : Go p e below Q (T.setTop (mkF m pc Ls (.null :: st))) := by
  obtain ⟨hd, rfl⟩ := hd; exact Go.of (fun _ => XT.ifnonnullNo P.here P.hx rfl (P.dec hd) rfl) G
theorem g_tsw (P : Pl p l e R s m args below meth c Z y bytes mx ret n0 T h cells slots) {dflt low high : Int} {offs : Array Int} {len q : Nat} {o : Int} {i : Int32} (hd : D bytes pc (.tableswitch dflt low high offs) len q) (hin : ¬ (i.toInt < low ∨ i.toInt > high)) (hoff : offs[(i.toInt - low).toNat]? = some o) (pc' : Nat) (ho : 0 ≤ (pc : Int) + o) (hp : ((pc : Int) + o).toNat = pc') (G : Go p e below Q (T.setTop (mkF m pc' Ls st))) : Go p e below Q (T.setTop (mkF m pc Ls (.int i :: st))) := by
  obtain ⟨hd, -⟩ := hd; exact Go.of (fun _ => XS.tswIn (g := mkF m pc Ls (.int i :: st)) P.here P.hx rfl rfl (P.dec hd) rfl hin hoff ho hp) G
/-! an array as a list of values -/
def AL (Z : State) (h : Heap) (a : Addr) (k : ClassId) (ty : FieldType) (vs : List Value) : Prop := ∃ c : Cell, Arr Z h a c ty ∧ c.cls = k ∧ c.slots.toList = vs ∧ vs.length < 2 ^ 31
variable {a b : Addr} {k : ClassId} {ty : FieldType} {vs : List Value} {sl : Nat} {v : Value} {ws : List Addr}
theorem AL.lt (A : AL Z h a k ty vs) : @LT.lt Nat _ a h.size := by obtain ⟨c, q, -⟩ := A; exact q.lt
theorem AL.len (A : AL Z h a k ty vs) : vs.length < 2 ^ 31 := by obtain ⟨c, -, -, -, q⟩ := A; exact q
theorem AL.ext (A : AL Z h a k ty vs) (E : Ext h h') : AL Z h' a k ty vs := by obtain ⟨c, q, r⟩ := A; exact ⟨c, q.ext E, r⟩
theorem AL.other (A : AL Z h b k ty vs) (W : Wr h h' a sl v) (q : b ≠ a) : AL Z h' b k ty vs := by obtain ⟨c, A, r⟩ := A; exact ⟨c, A.other W q, r⟩
theorem AL.keep (A : AL Z h a k ty vs) (K : Keep h h' ws) (q : a ∉ ws) : AL Z h' a k ty vs := by obtain ⟨c, A, r⟩ := A; exact ⟨c, ⟨K.2.1 a c A.1 q, A.2⟩, r⟩
theorem AL.new {n : Int32} (A : Arr Z h a (newA k ty n) ty) (q : ¬ n < 0) : AL Z h a k ty (List.replicate n.toNatClampNeg (defaultValue ty)) :=
  ⟨_, A, rfl, by show (Array.replicate _ _).toList = _; rw [Array.toList_replicate], by rw [List.length_replicate]; exact (back32 q).2⟩
theorem AL.set (A : AL Z h a k ty vs) (W : Wr h h' a sl v) : AL Z h' a k ty (vs.set sl v) := by
  obtain ⟨c, A, r1, r2, r3⟩ := A
  refine ⟨_, A.same W, r1, ?_, by rw [List.length_set]; exact r3⟩
  show (c.slots.setIfInBounds sl v).toList = _
  rw [Array.toList_setIfInBounds, r2]
abbrev Ix (j : Int32) (i : Nat) : Prop := ¬ j < 0 ∧ j.toNatClampNeg = i
theorem Ix.of {j : Int32} {i : Nat} (q : j.toInt = i) : Ix j i := ⟨by rw [Int32.lt_iff_toInt_lt]; have : (0 : Int32).toInt = 0 := rfl; omega, by simp only [Int32.toNatClampNeg]; omega⟩
theorem Ix.inb {j : Int32} {i : Nat} {c : Cell} (I : Ix j i) (q : i < c.slots.toList.length) : ¬ (j < 0 ∨ c.slots.size ≤ j.toNatClampNeg) := by
  rw [Array.length_toList] at q
  rintro (r | r)
  · exact I.1 r
  · rw [I.2] at r; omega
theorem lt_of_get {vs : List Value} {i : Nat} (q : vs[i]? = some v) : i < vs.length := (List.getElem?_eq_some_iff.mp q).1
theorem g_newarray (P : Pl p l e R s m args below meth c Z y bytes mx ret n0 T h cells slots) {aty : ArrayType} {n : Int32} (hd : D bytes pc (.newarray aty) 2 pc') (w : (Cond.arrayClass (newarray.typeOf aty)).before a0 Z = true) (hn : ¬ n < 0) (cap : Nat) (hcap : n.toNatClampNeg ≤ cap) (hb : cap * 8 ≤ 536870912) (hc : cells + 1 ≤ R.cells) (hl : slots + cap ≤ R.slots) (ad : String) (had : "[" ++ (newarray.typeOf aty).toString = ad)
    (G : ∀ T' h' a k, Pl p l e R s m args below meth c Z y bytes mx ret n0 T' h' (cells + 1) (slots + cap) → h.size = a → Ext h h' → AL Z h' a k (newarray.typeOf aty) (List.replicate n.toNatClampNeg (defaultValue (newarray.typeOf aty))) → Exa Z h' a ad → Go p e below Q (T'.setTop (mkF m pc' Ls (.ref a :: st)))) : Go p e below Q (T.setTop (mkF m pc Ls (.int n :: st))) := by
  obtain ⟨hd, rfl⟩ := hd; obtain ⟨B, locs, X, N, eT⟩ := id P
  obtain ⟨T', h', cA, X', e', E, A, Ex, stp⟩ := newPE X P.hx P.hZ w eT (g := mkF m pc Ls (.int n :: st)) rfl (P.dec hd) rfl hn hcap hb hc hl had
  exact Go.of stp (G T' h' _ cA ⟨B, locs, X', N, e'⟩ rfl E (AL.new A hn) Ex)
theorem g_anewarray (P : Pl p l e R s m args below meth c Z y bytes mx ret n0 T h cells slots) {C : String} {index : Nat} {n : Int32} (hd : D bytes pc (.anewarray index) 3 pc') (w1 : (Cond.classLink y.cls index C).before a0 Z = true) (w2 : (Cond.arrayOver (.object C)).before a0 Z = true) (hn : ¬ n < 0) (cap : Nat) (hcap : n.toNatClampNeg ≤ cap) (hb : cap * 8 ≤ 536870912) (hc : cells + 1 ≤ R.cells) (hl : slots + cap ≤ R.slots) (ad : String) (had : "[" ++ (FieldType.object C).toString = ad)
    (G : ∀ T' h' a k, Pl p l e R s m args below meth c Z y bytes mx ret n0 T' h' (cells + 1) (slots + cap) → h.size = a → Ext h h' → AL Z h' a k (.object C) (List.replicate n.toNatClampNeg .null) → Exa Z h' a ad → Ovr Z k C → Go p e below Q (T'.setTop (mkF m pc' Ls (.ref a :: st)))) : Go p e below Q (T.setTop (mkF m pc Ls (.int n :: st))) := by
  obtain ⟨hd, rfl⟩ := hd; obtain ⟨B, locs, X, N, eT⟩ := id P
  obtain ⟨T', h', cA, X', e', E, A, Ex, O, stp⟩ := newRE X P.hx P.hZ P.hown w1 w2 eT (g := mkF m pc Ls (.int n :: st)) rfl (P.dec hd) rfl hn hcap hb hc hl had
  exact Go.of stp (G T' h' _ cA ⟨B, locs, X', N, e'⟩ rfl E (AL.new A hn) Ex O)
theorem g_arraylength (P : Pl p l e R s m args below meth c Z y bytes mx ret n0 T h cells slots) {z : Int32} (hd : D bytes pc .arraylength 1 pc') (A : AL Z h a k ty vs) (hz : vs.length.toInt32 = z) (G : Go p e below Q (T.setTop (mkF m pc' Ls (.int z :: st)))) : Go p e below Q (T.setTop (mkF m pc Ls (.ref a :: st))) := by
  obtain ⟨hd, rfl⟩ := hd; obtain ⟨B, locs, X, N, eT⟩ := id P; obtain ⟨cl, A, q1, q2, q3⟩ := A
  subst hz q2
  refine Go.of (fun u => X.arraylength P.hx (by rw [eT]; exact A.1) (State.isArrayOf_alike P.hZ.alike A.2.1) (g := mkF m pc Ls (.ref a :: st)) rfl rfl (P.dec hd) u) ?_
  rw [Array.length_toList] at G
  exact G
theorem g_iaload (P : Pl p l e R s m args below meth c Z y bytes mx ret n0 T h cells slots) {j : Int32} {i : Nat} (hd : D bytes pc .iaload 1 pc') (A : AL Z h a k .int vs) (I : Ix j i) (hv : vs[i]? = some v) (G : Go p e below Q (T.setTop (mkF m pc' Ls (v :: st)))) : Go p e below Q (T.setTop (mkF m pc Ls (.int j :: .ref a :: st))) := by
  obtain ⟨hd, rfl⟩ := hd; obtain ⟨B, locs, X, N, eT⟩ := id P; obtain ⟨cl, A, q1, rfl, q3⟩ := A
  exact Go.of (fun u => X.iaload P.hx (by rw [eT]; exact A.1) (State.isArrayOf_alike P.hZ.alike A.2.1) A.2.2 (I.inb (lt_of_get hv)) (by rw [I.2, ← Array.getElem?_toList]; exact hv) (g := mkF m pc Ls (.int j :: .ref a :: st)) rfl rfl (P.dec hd) u) G
theorem g_baload (P : Pl p l e R s m args below meth c Z y bytes mx ret n0 T h cells slots) {j : Int32} {i : Nat} (hd : D bytes pc .baload 1 pc') (A : AL Z h a k .byte vs) (I : Ix j i) (hv : vs[i]? = some v) (G : Go p e below Q (T.setTop (mkF m pc' Ls (v :: st)))) : Go p e below Q (T.setTop (mkF m pc Ls (.int j :: .ref a :: st))) := by
  obtain ⟨hd, rfl⟩ := hd; obtain ⟨B, locs, X, N, eT⟩ := id P; obtain ⟨cl, A, q1, rfl, q3⟩ := A
  exact Go.of (fun u => X.baloadBytes P.hx (by rw [eT]; exact A.1) (State.isArrayOf_alike P.hZ.alike A.2.1) A.2.2 (I.inb (lt_of_get hv)) (by rw [I.2, ← Array.getElem?_toList]; exact hv) (g := mkF m pc Ls (.int j :: .ref a :: st)) rfl rfl (P.dec hd) u) G
theorem g_aaload (P : Pl p l e R s m args below meth c Z y bytes mx ret n0 T h cells slots) {j : Int32} {i : Nat} (hd : D bytes pc .aaload 1 pc') (A : AL Z h a k ty vs) (hty : ty.isReference = true) (I : Ix j i) (hv : vs[i]? = some v) (G : Go p e below Q (T.setTop (mkF m pc' Ls (v :: st)))) : Go p e below Q (T.setTop (mkF m pc Ls (.int j :: .ref a :: st))) := by
  obtain ⟨hd, rfl⟩ := hd; obtain ⟨B, locs, X, N, eT⟩ := id P; obtain ⟨cl, A, q1, rfl, q3⟩ := A
  exact Go.of (fun u => X.aaload P.hx (by rw [eT]; exact A.1) (State.isArrayOf_alike P.hZ.alike A.2.1) hty A.2.2 (I.inb (lt_of_get hv)) (by rw [I.2, ← Array.getElem?_toList]; exact hv) (g := mkF m pc Ls (.int j :: .ref a :: st)) rfl rfl (P.dec hd) u) G
theorem g_iastore (P : Pl p l e R s m args below meth c Z y bytes mx ret n0 T h cells slots) {j x : Int32} {i : Nat} (hd : D bytes pc .iastore 1 pc') (A : AL Z h a k .int vs) (I : Ix j i) (hi : i < vs.length) (ge : n0 ≤ a)
    (G : ∀ T' h', Pl p l e R s m args below meth c Z y bytes mx ret n0 T' h' cells slots → Wr h h' a i (.int x) → AL Z h' a k .int (vs.set i (.int x)) → Go p e below Q (T'.setTop (mkF m pc' Ls st))) : Go p e below Q (T.setTop (mkF m pc Ls (.int x :: .int j :: .ref a :: st))) := by
  obtain ⟨hd, rfl⟩ := hd; obtain ⟨B, locs, X, N, eT⟩ := id P; obtain ⟨cl, A', q1, q2, q3⟩ := id A
  obtain ⟨T', h', X', e', W, stp⟩ := stI X P.hx P.hZ eT A' (j := j) (x := x) (I.inb (by rw [q2]; exact hi)) (g := mkF m pc Ls (.int x :: .int j :: .ref a :: st)) rfl rfl (P.dec hd)
  rw [I.2] at W
  exact Go.of stp (G T' h' ⟨B, _, X', Fr.snoc X' N ge, e'⟩ W (A.set W))
theorem g_bastoreB (P : Pl p l e R s m args below meth c Z y bytes mx ret n0 T h cells slots) {j x w : Int32} {i : Nat} (hd : D bytes pc .bastore 1 pc') (A : AL Z h a k .byte vs) (I : Ix j i) (hi : i < vs.length) (ge : n0 ≤ a) (hw : x.toInt8.toInt32 = w)
    (G : ∀ T' h', Pl p l e R s m args below meth c Z y bytes mx ret n0 T' h' cells slots → Wr h h' a i (.int w) → AL Z h' a k .byte (vs.set i (.int w)) → Go p e below Q (T'.setTop (mkF m pc' Ls st))) : Go p e below Q (T.setTop (mkF m pc Ls (.int x :: .int j :: .ref a :: st))) := by
  obtain ⟨hd, rfl⟩ := hd; obtain ⟨B, locs, X, N, eT⟩ := id P; obtain ⟨cl, A', q1, q2, q3⟩ := id A
  obtain ⟨T', h', X', e', W, stp⟩ := stB X P.hx P.hZ eT A' (j := j) (x := x) (I.inb (by rw [q2]; exact hi)) (g := mkF m pc Ls (.int x :: .int j :: .ref a :: st)) rfl rfl (P.dec hd)
  rw [I.2] at W
  have W : Wr h h' a i (.int w) := hw ▸ W
  exact Go.of stp (G T' h' ⟨B, _, X', Fr.snoc X' N ge, e'⟩ W (A.set W))
theorem g_bastoreZ (P : Pl p l e R s m args below meth c Z y bytes mx ret n0 T h cells slots) {j x w : Int32} {i : Nat} (hd : D bytes pc .bastore 1 pc') (A : AL Z h a k .boolean vs) (I : Ix j i) (hi : i < vs.length) (ge : n0 ≤ a) (hw : x &&& 1 = w)
    (G : ∀ T' h', Pl p l e R s m args below meth c Z y bytes mx ret n0 T' h' cells slots → Wr h h' a i (.int w) → AL Z h' a k .boolean (vs.set i (.int w)) → Go p e below Q (T'.setTop (mkF m pc' Ls st))) : Go p e below Q (T.setTop (mkF m pc Ls (.int x :: .int j :: .ref a :: st))) := by
  obtain ⟨hd, rfl⟩ := hd; obtain ⟨B, locs, X, N, eT⟩ := id P; obtain ⟨cl, A', q1, q2, q3⟩ := id A
  obtain ⟨T', h', X', e', W, stp⟩ := stZ X P.hx P.hZ eT A' (j := j) (x := x) (I.inb (by rw [q2]; exact hi)) (g := mkF m pc Ls (.int x :: .int j :: .ref a :: st)) rfl rfl (P.dec hd)
  rw [I.2] at W
  have W : Wr h h' a i (.int w) := hw ▸ W
  exact Go.of stp (G T' h' ⟨B, _, X', Fr.snoc X' N ge, e'⟩ W (A.set W))
theorem g_aastore (P : Pl p l e R s m args below meth c Z y bytes mx ret n0 T h cells slots) {j : Int32} {i : Nat} (hd : D bytes pc .aastore 1 pc') (A : AL Z h a k ty vs) (hty : ty.isReference = true) (I : Ix j i) (hi : i < vs.length) (F : Sto Z h a v) (ge : n0 ≤ a)
    (G : ∀ T' h', Pl p l e R s m args below meth c Z y bytes mx ret n0 T' h' cells slots → Wr h h' a i v → AL Z h' a k ty (vs.set i v) → Go p e below Q (T'.setTop (mkF m pc' Ls st))) : Go p e below Q (T.setTop (mkF m pc Ls (v :: .int j :: .ref a :: st))) := by
  obtain ⟨hd, rfl⟩ := hd; obtain ⟨B, locs, X, N, eT⟩ := id P; obtain ⟨cl, A', q1, q2, q3⟩ := id A
  obtain ⟨T', h', X', e', W, stp⟩ := stR X P.hx P.hZ eT A' (j := j) (v := v) (I.inb (by rw [q2]; exact hi)) hty F (g := mkF m pc Ls (v :: .int j :: .ref a :: st)) rfl rfl (P.dec hd)
  rw [I.2] at W
  exact Go.of stp (G T' h' ⟨B, _, X', Fr.snoc X' N ge, e'⟩ W (A.set W))
theorem g_clone (P : Pl p l e R s m args below meth c Z y bytes mx ret n0 T h cells slots) {ad : String} {index : Nat} (hd : D bytes pc (.invokevirtual index) 3 pc')
    (w1 : (Cond.methodLink y.cls index ⟨ad, "clone", "()Ljava/lang/Object;"⟩).before a0 Z = true) (w2 : (Cond.sameMethod ad "java/lang/Object" "clone" "()Ljava/lang/Object;").before a0 Z = true) (w3 : (Cond.native ⟨"java/lang/Object", "clone", "()Ljava/lang/Object;"⟩).before a0 Z = true)
    (w4 : (Cond.instanceMethod ⟨"java/lang/Object", "clone", "()Ljava/lang/Object;"⟩).before a0 Z = true) (w5 : (Cond.selects ad ⟨ad, "clone", "()Ljava/lang/Object;"⟩ ⟨"java/lang/Object", "clone", "()Ljava/lang/Object;"⟩).before a0 Z = true) (w6 : (Cond.castable ad "java/lang/Cloneable").before a0 Z = true)
    (A : AL Z h a k ty vs) (E : Exa Z h a ad) (fit : ∀ v ∈ vs, fits ty v = true) (hs : Ls.size = mx) (hf : 1 ≤ R.frames) {W : Nat} (hW : (st.map fun v => v.category).sum = W) (hl : W + 14 ≤ R.locals) (cap : Nat) (hcap : vs.length ≤ cap) (hc : cells + 1 ≤ R.cells) (hsl : slots + cap ≤ R.slots)
    (G : ∀ T' h' b, Pl p l e R s m args below meth c Z y bytes mx ret n0 T' h' (cells + 1) (slots + cap) → h.size = b → Ext h h' → AL Z h' b k ty vs → Exa Z h' b ad → Go p e below Q (T'.setTop (mkF m pc' Ls (.ref b :: st)))) : Go p e below Q (T.setTop (mkF m pc Ls (.ref a :: st))) := by
  obtain ⟨hd, rfl⟩ := hd; obtain ⟨B, locs, X, N, eT⟩ := id P; obtain ⟨cl, A, q1, q2, q3⟩ := A
  subst q2
  have FC : FitC Z cl := fitC_of A fun i hi v hv => fit v (by rw [← Array.getElem?_toList] at hv; exact List.mem_of_getElem? hv)
  obtain ⟨T', h', X', e', E', A', Ex, stp⟩ := cloneA X P.hx P.hZ P.hown w1 w2 w3 w4 w5 w6 eT A E FC (g := mkF m pc Ls (.ref a :: st)) rfl (by rw [P.hml]; exact hs) rfl (P.dec hd) hf (W := W) (by show 2 * 0 + _ ≤ W; omega) hl (by rw [← Array.length_toList]; exact hcap) hc hsl
  exact Go.of stp (G T' h' _ ⟨B, locs, X', N, e'⟩ rfl E' ⟨_, A', q1, rfl, q3⟩ Ex)
theorem AL.sto {x : Addr} {C : String} (A : AL Z h a k ty vs) (O : Ovr Z k C) (I : Ins Z h x C true) : Sto Z h a (.ref x) := by obtain ⟨cl, A, q, -⟩ := A; exact Sto.ofV A q O I
theorem g_checkcast (P : Pl p l e R s m args below meth c Z y bytes mx ret n0 T h cells slots) {K : String} {index : Nat} (hd : D bytes pc (.checkcast index) 3 pc') (w : (Cond.classLink y.cls index K).before a0 Z = true) (F : Ins Z h a K true)
    (G : ∀ T', Pl p l e R s m args below meth c Z y bytes mx ret n0 T' h cells slots → Go p e below Q (T'.setTop (mkF m pc' Ls (.ref a :: st)))) : Go p e below Q (T.setTop (mkF m pc Ls (.ref a :: st))) := by
  obtain ⟨hd, rfl⟩ := hd; obtain ⟨B, locs, X, N, eT⟩ := id P
  obtain ⟨T', X', e', stp⟩ := castY X P.hx P.hZ P.hown w eT F (g := mkF m pc Ls (.ref a :: st)) rfl rfl (P.dec hd)
  exact Go.of stp (G T' ⟨B, locs, X', N, e'⟩)
theorem g_instYes (P : Pl p l e R s m args below meth c Z y bytes mx ret n0 T h cells slots) {K : String} {index : Nat} (hd : D bytes pc (.instanceof index) 3 pc') (w : (Cond.classLink y.cls index K).before a0 Z = true) (F : Ins Z h a K true)
    (G : ∀ T', Pl p l e R s m args below meth c Z y bytes mx ret n0 T' h cells slots → Go p e below Q (T'.setTop (mkF m pc' Ls (.int 1 :: st)))) : Go p e below Q (T.setTop (mkF m pc Ls (.ref a :: st))) := by
  obtain ⟨hd, rfl⟩ := hd; obtain ⟨B, locs, X, N, eT⟩ := id P
  obtain ⟨T', X', e', stp⟩ := instY X P.hx P.hZ P.hown w eT F (g := mkF m pc Ls (.ref a :: st)) rfl rfl (P.dec hd)
  exact Go.of stp (G T' ⟨B, locs, X', N, e'⟩)
theorem g_instNo (P : Pl p l e R s m args below meth c Z y bytes mx ret n0 T h cells slots) {K C : String} {index : Nat} (hd : D bytes pc (.instanceof index) 3 pc') (w : (Cond.classLink y.cls index K).before a0 Z = true) (E : Exa Z h a C) (F : ∃ c t, Z.vm.findClass C = some c ∧ Z.vm.findClass K = some t ∧ Z.vm.assignable c t = false)
    (G : ∀ T', Pl p l e R s m args below meth c Z y bytes mx ret n0 T' h cells slots → Go p e below Q (T'.setTop (mkF m pc' Ls (.int 0 :: st)))) : Go p e below Q (T.setTop (mkF m pc Ls (.ref a :: st))) := by
  obtain ⟨hd, rfl⟩ := hd; obtain ⟨B, locs, X, N, eT⟩ := id P
  obtain ⟨T', X', e', stp⟩ := instNo X P.hx P.hZ P.hown w eT E F (g := mkF m pc Ls (.ref a :: st)) rfl rfl (P.dec hd)
  exact Go.of stp (G T' ⟨B, locs, X', N, e'⟩)
theorem g_virtualUp (P : Pl p l e R s m args below meth c Z y bytes mx ret n0 T h cells slots) {y1 y' : MethodName} {C owner : String} {bytes' : ByteArray} {mx' : Nat} {ret' : Option FieldType} {rm : Room} {Qc : Option Value → Heap → Prop} {index : Nat} {ps : List FieldType} {r : Option FieldType} (a : Addr) (argsL : List Value) {stk rest : List Value} {W : Nat}
    (hd : D bytes pc (.invokevirtual index) 3 pc') (w1 : (Cond.methodLink y.cls index y1).before a0 Z = true) (w0 : (Cond.sameMethod y1.cls owner y1.name y1.desc).before a0 Z = true) (w2 : (Cond.declares ⟨owner, y1.name, y1.desc⟩).before a0 Z = true) (ho : owner ≠ "java/lang/invoke/MethodHandle" ∧ owner ≠ "java/lang/invoke/VarHandle") (w3 : (Cond.selects C y1 y').before a0 Z = true) (w4 : (Cond.instanceMethod y').before a0 Z = true) (w5 : (Cond.initialized y'.cls).before a0 Z = true) (w6 : (Cond.code y' bytes' mx' ret').before a0 Z = true)
    (E : Exa Z h a C) (M : Met l Z y' bytes' mx' ret' rm n0 (.ref a :: argsL).toArray h Qc) (pd : parseMethodDescriptor y1.desc = some ⟨ps, r⟩) (hl : argsL.length = ps.length) (hs : stk = argsL.reverse ++ .ref a :: rest) (hmx : Ls.size = mx) (hW : (rest.map fun v => v.category).sum = W)
    (hf : rm.frames + 1 ≤ R.frames) (hlo : W + (mx' + 11) + rm.locals ≤ R.locals) (hc : cells + rm.cells ≤ R.cells) (hsl : slots + rm.slots ≤ R.slots)
    (G : ∀ v T' h', Pl p l e R s m args below meth c Z y bytes mx ret n0 T' h' (cells + rm.cells) (slots + rm.slots) → Qc v h' → Go p e below Q (T'.setTop (mkF m pc' Ls (v.toList ++ rest)))) : Go p e below Q (T.setTop (mkF m pc Ls stk)) := by
  obtain ⟨hd, rfl⟩ := hd; obtain ⟨B, locs, X, N, eT⟩ := id P
  obtain ⟨cq, kq, qa, qb, qc⟩ := isOf P.hZ eT E
  obtain ⟨v, _, ⟨T', L', k', n'⟩, -, X', ⟨Lc, hQ, l', y'', z'⟩, stp⟩ := X.virtualBackUp P.hx (x := y1) (y := y') (owner := owner) P.hown (mvT P.hZ w1) (mvT P.hZ w0) (mvT P.hZ w2) ho (mvT P.hZ w3) (mvT P.hZ w4) (backOf (W := W) (Q := fun v h L => Fr n0 L ∧ Qc v h) (M []) P.hZ w6 w5 hf hlo) qa qc (g := mkF m pc Ls stk) rfl (by rw [P.hml]; exact hmx) (Steps.refl _) (argsL := argsL) (rest := rest) (lenOf pd hl) hs (by show 2 * 0 + _ ≤ W; omega) (P.dec hd) (fun _ _ => ⟨rfl, eT, hc, hsl⟩)
  dsimp only [Pt.U, Pt.locs, Pt.cells, Pt.slots] at X' l' y'' z' stp hQ
  subst l' y'' z'
  exact Go.tr stp (G v T' T'.heap ⟨B, _, X', Fr.app N hQ.1, rfl⟩ hQ.2)
end OwnMore
/-! OWN 4: what lies below an address stays; arrays of arrays; an array of the start -/
section OwnBelow
variable {p : Program} {l : Launch} {e : Env} {R : Room} {s : State} {m : MethodId} {args : Array Value} {below : List Frame} {meth : Method} {c : Code} {Z : State} {y : MethodName} {bytes : ByteArray} {mx : Nat} {ret : Option FieldType} {n0 : Nat} {T T' : State} {h h' h'' : Heap} {cells slots : Nat} {Q : Outcome → State → Prop} {pc pc' : Nat} {Ls : Array Slot} {st : List Value} {a0 : Array Value}
variable {a b : Addr} {k : ClassId} {ty : FieldType} {vs : List Value} {sl : Nat} {v : Value} {ws : List Addr} {n1 : Nat} {C n d : String}
def Below (n1 : Nat) (h h' : Heap) : Prop := h.size ≤ h'.size ∧ ∀ (x : Addr) (c : Cell), x < n1 → h[x]? = some c → h'[x]? = some c
theorem Below.refl : Below n1 h h := ⟨Nat.le_refl _, fun _ _ _ q => q⟩
theorem Below.trans (B : Below n1 h h') (B' : Below n1 h' h'') : Below n1 h h'' := ⟨Nat.le_trans B.1 B'.1, fun x c q r => B'.2 x c q (B.2 x c q r)⟩
theorem Below.ext (B : Below n1 h h') (E : Ext h' h'') : Below n1 h h'' := ⟨Nat.le_trans B.1 E.1, fun x c q r => E.2 x c (B.2 x c q r)⟩
theorem Below.wr (B : Below n1 h h') (W : Wr h' h'' a sl v) (q : n1 ≤ a) : Below n1 h h'' := by
  refine ⟨by rw [W.size]; exact B.1, fun x c r t => ?_⟩
  obtain ⟨c', e1, -, -, -, e5, -⟩ := wr_at W (B.2 x c r t)
  rw [← e5 (nN (by have := ltN r; omega))]; exact e1
theorem Below.keep (B : Below n1 h h') (K : Keep h' h'' ws) (q : ∀ x ∈ ws, n1 ≤ x) : Below n1 h h'' :=
  ⟨Nat.le_trans B.1 K.1, fun x c r t => K.2.1 x c (B.2 x c r t) fun z => absurd (q x z) (Nat.not_le.mpr r)⟩
theorem Below.down (B : Below n1 h h') {n2 : Nat} (q : n2 ≤ n1) : Below n2 h h' := ⟨B.1, fun x c r t => B.2 x c (Nat.lt_of_lt_of_le r q) t⟩
theorem ext_below {h0 : Heap} (E : Ext h0 h) (B : Below n1 h h') (q : h0.size ≤ n1) : Ext h0 h' := ⟨Nat.le_trans E.1 B.1, fun x c r => B.2 x c (Nat.lt_of_lt_of_le (Array.getElem?_eq_some_iff.mp r).1 q) (E.2 x c r)⟩
theorem ext_wr {h0 : Heap} (E : Ext h0 h) (W : Wr h h' a sl v) (q : h0.size ≤ a) : Ext h0 h' := ext_below E (Below.refl.wr W (Nat.le_refl a)) q
theorem ext_trans {h0 : Heap} (E : Ext h0 h) (E' : Ext h h') : Ext h0 h' := ⟨Nat.le_trans E.1 E'.1, fun x c r => E'.2 x c (E.2 x c r)⟩
theorem ext_refl : Ext h h := ⟨Nat.le_refl _, fun _ _ q => q⟩
theorem AL.blw (A : AL Z h a k ty vs) (B : Below n1 h h') (q : a < n1) : AL Z h' a k ty vs := by obtain ⟨c, A, r⟩ := A; exact ⟨c, ⟨B.2 a c q A.1, A.2⟩, r⟩
theorem exa_below (A : Exa Z h a C) (B : Below n1 h h') (q : a < n1) : Exa Z h' a C := by obtain ⟨c, k, h1, r⟩ := A; exact ⟨c, k, B.2 a c q h1, r⟩
theorem fld_below (A : Fld Z h a C n d v) (B : Below n1 h h') (q : a < n1) : Fld Z h' a C n d v := by obtain ⟨c, cf, k, i, f, h1, r⟩ := A; exact ⟨c, cf, k, i, f, B.2 a c q h1, r⟩
theorem AL.stoA {x : Addr} {C : String} {ty' : FieldType} (A : AL Z h a k ty vs) (O : OvrA Z k ty' C) (I : Ins Z h x C true) : Sto Z h a (.ref x) := by obtain ⟨cl, A, q, -⟩ := A; exact Sto.ofVA A q O I
theorem g_anewarrayA (P : Pl p l e R s m args below meth c Z y bytes mx ret n0 T h cells slots) {C : String} {index : Nat} {n : Int32} (hd : D bytes pc (.anewarray index) 3 pc') (hC : (FieldType.array ty).toString = C) (w1 : (Cond.classLink y.cls index C).before a0 Z = true) (w2 : (Cond.arrayOver (.array ty)).before a0 Z = true) (hn : ¬ n < 0) (cap : Nat) (hcap : n.toNatClampNeg ≤ cap) (hb : cap * 8 ≤ 536870912) (hc : cells + 1 ≤ R.cells) (hl : slots + cap ≤ R.slots) (ad : String) (had : "[" ++ C = ad)
    (G : ∀ T' h' a k, Pl p l e R s m args below meth c Z y bytes mx ret n0 T' h' (cells + 1) (slots + cap) → h.size = a → Ext h h' → AL Z h' a k (.array ty) (List.replicate n.toNatClampNeg .null) → Exa Z h' a ad → OvrA Z k ty C → Go p e below Q (T'.setTop (mkF m pc' Ls (.ref a :: st)))) : Go p e below Q (T.setTop (mkF m pc Ls (.int n :: st))) := by
  obtain ⟨hd, rfl⟩ := hd; obtain ⟨B, locs, X, N, eT⟩ := id P
  obtain ⟨T', h', cA, X', e', E, A, Ex, O, stp⟩ := newRA X P.hx P.hZ P.hown hC w1 w2 eT (g := mkF m pc Ls (.int n :: st)) rfl (P.dec hd) rfl hn hcap hb hc hl had
  exact Go.of stp (G T' h' _ cA ⟨B, locs, X', N, e'⟩ rfl E (AL.new A hn) Ex O)
theorem al_start {t : Term} {z : Int32} {cl : Cell} (ev : t.eval args Z none [] Z = some (.ref a)) (A : Arr Z Z.heap a cl ty) (hl : (Term.length t).eval args Z none [] Z = some (.int z)) : AL Z Z.heap a cl.cls ty cl.slots.toList ∧ cl.slots.toList.length.toInt32 = z := by
  obtain ⟨sd, SA, hev, harr, -⟩ := Term.length_spec hl
  cases ev.symm.trans hev
  have h31 := SBG.length_lt hev harr hl
  have e1 : (Term.length t).eval args Z none [] Z = some (.int (Int32.ofNat SA.slots.size)) := by simp [Term.eval, hev, harr, h31]
  have e2 : Int32.ofNat SA.slots.size = z := by have q := Option.some.inj (e1.symm.trans hl); cases q; rfl
  cases harr.symm.trans (A.fin (Vm.Alike.refl _))
  exact ⟨⟨_, A, rfl, rfl, by rw [Array.length_toList]; exact h31⟩, by rw [Array.length_toList]; exact e2⟩
theorem elem_start {t : Term} {j : Int32} {cl : Cell} (ev : t.eval args Z none [] Z = some (.ref a)) (A : Arr Z Z.heap a cl ty) (h : (Term.elem t (.int j)).eval args Z none [] Z = some v) : cl.slots.toList[j.toNatClampNeg]? = some v := by
  obtain ⟨a', j', cell, ha', hj', hat, hin, hv⟩ := Term.elem_spec h
  cases ev.symm.trans ha'
  cases hj'
  cases hat.symm.trans (A.fin (Vm.Alike.refl _))
  rw [Array.getElem?_toList]; exact hv
end OwnBelow
/-! OWN 6: a private method by its contract -/
section OwnPrivate
variable {p : Program} {l : Launch} {e : Env} {R : Room} {s : State} {m : MethodId} {args : Array Value} {below : List Frame} {meth : Method} {c : Code} {Z : State} {y : MethodName} {bytes : ByteArray} {mx : Nat} {ret : Option FieldType} {n0 : Nat} {T T' : State} {h h' h'' : Heap} {cells slots : Nat} {Q : Outcome → State → Prop} {pc pc' : Nat} {Ls : Array Slot} {st : List Value} {a0 : Array Value}
theorem g_private (P : Pl p l e R s m args below meth c Z y bytes mx ret n0 T h cells slots) {y' yo : MethodName} {C : String} {bytes' : ByteArray} {mx' : Nat} {ret' : Option FieldType} {rm : Room} {Qc : Option Value → Heap → Prop} {index : Nat} {ps : List FieldType} {r : Option FieldType} (a : Addr) (argsL : List Value) {stk rest : List Value} {W : Nat}
    (hd : D bytes pc (.invokevirtual index) 3 pc') (w1 : (Cond.methodLink y.cls index y').before a0 Z = true) (w2 : (Cond.privateMethod y').before a0 Z = true) (w3 : (Cond.selects C yo yo).before a0 Z = true) (hyo : yo.cls = y'.cls) (w4 : (Cond.instanceMethod y').before a0 Z = true) (w5 : (Cond.initialized y'.cls).before a0 Z = true) (w6 : (Cond.code y' bytes' mx' ret').before a0 Z = true) (hy : y'.cls ≠ "java/lang/invoke/MethodHandle" ∧ y'.cls ≠ "java/lang/invoke/VarHandle")
    {K : String} (E : Exa Z h a K) (M : Met l Z y' bytes' mx' ret' rm n0 (.ref a :: argsL).toArray h Qc) (pd : parseMethodDescriptor y'.desc = some ⟨ps, r⟩) (hl : argsL.length = ps.length) (hs : stk = argsL.reverse ++ .ref a :: rest) (hmx : Ls.size = mx) (hW : (rest.map fun v => v.category).sum = W)
    (hf : rm.frames + 1 ≤ R.frames) (hlo : W + (mx' + 11) + rm.locals ≤ R.locals) (hc : cells + rm.cells ≤ R.cells) (hsl : slots + rm.slots ≤ R.slots)
    (G : ∀ v T' h', Pl p l e R s m args below meth c Z y bytes mx ret n0 T' h' (cells + rm.cells) (slots + rm.slots) → Qc v h' → Go p e below Q (T'.setTop (mkF m pc' Ls (v.toList ++ rest)))) : Go p e below Q (T.setTop (mkF m pc Ls stk)) := by
  obtain ⟨hd, rfl⟩ := hd; obtain ⟨B, locs, X, N, eT⟩ := id P
  have hp := Cond.privateMethod_at (mvP P.hZ w2 (args := #[]))
  have hsel : (Cond.selects y'.cls y' y').before args s = true := by
    obtain ⟨_, _, mo, -, -, q3, -, ko, q5, q6⟩ := Cond.selects_spec (mvT (args := #[]) P.hZ w3)
    exact selects_self_of_private (by rw [← hyo]; exact findClass_of_methodNamed q3) q5 q6 hp (mvT P.hZ w4) hy
  obtain ⟨cq, q, q'⟩ := E.cell
  obtain ⟨v, _, ⟨T', L', k', n'⟩, -, X', ⟨Lc, hQ, l', y'', z'⟩, stp⟩ := X.privateBack P.hx (y := y') P.hown (mvT P.hZ w1) (mvT P.hZ w4) hsel hp (mvT P.hZ w6) hy (backOf (W := W) (Q := fun v h L => Fr n0 L ∧ Qc v h) (M []) P.hZ w6 w5 hf hlo) (g := mkF m pc Ls stk) rfl (by rw [P.hml]; exact hmx) (Steps.refl _) (a := a) (by rw [eT]; exact q) q' (argsL := argsL) (rest := rest) (lenOf pd hl) hs (by show 2 * 0 + _ ≤ W; omega) (P.dec hd) (fun _ _ => ⟨rfl, eT, hc, hsl⟩)
  dsimp only [Pt.U, Pt.locs, Pt.cells, Pt.slots] at X' l' y'' z' stp hQ
  subst l' y'' z'
  exact Go.tr stp (G v T' T'.heap ⟨B, _, X', Fr.app N hQ.1, rfl⟩ hQ.2)
end OwnPrivate
theorem d0_0 : D code 0 (.iload_n 0) 1 1 := ⟨at_0, rfl⟩
theorem d0_1 : D code 1 (.iconst 3) 1 2 := ⟨at_1, rfl⟩
theorem d0_2 : D code 2 (.iand) 1 3 := ⟨at_2, rfl⟩
theorem d0_3 : D code 3 (.ifCond .ne 7) 3 6 := ⟨at_3, rfl⟩
theorem d0_6 : D code 6 (.iconst 3) 1 7 := ⟨at_6, rfl⟩
theorem d0_7 : D code 7 (.goto 6) 3 10 := ⟨at_7, rfl⟩
theorem d0_10 : D code 10 (.iload_n 0) 1 11 := ⟨at_10, rfl⟩
theorem d0_11 : D code 11 (.iconst 3) 1 12 := ⟨at_11, rfl⟩
theorem d0_12 : D code 12 (.iand) 1 13 := ⟨at_12, rfl⟩
theorem d0_13 : D code 13 (.istore 4) 2 15 := ⟨at_13, rfl⟩
theorem d0_15 : D code 15 (.iload_n 0) 1 16 := ⟨at_15, rfl⟩
theorem d0_16 : D code 16 (.bipush 11) 2 18 := ⟨at_16, rfl⟩
theorem d0_18 : D code 18 (.iushr) 1 19 := ⟨at_18, rfl⟩
theorem d0_19 : D code 19 (.iconst 3) 1 20 := ⟨at_19, rfl⟩
theorem d0_20 : D code 20 (.iand) 1 21 := ⟨at_20, rfl⟩
theorem d0_21 : D code 21 (.istore 5) 2 23 := ⟨at_21, rfl⟩
theorem d0_23 : D code 23 (.iload 5) 2 25 := ⟨at_23, rfl⟩
theorem d0_25 : D code 25 (.iconst 2) 1 26 := ⟨at_25, rfl⟩
theorem d0_26 : D code 26 (.if_icmp .lt 7) 3 29 := ⟨at_26, rfl⟩
theorem d0_29 : D code 29 (.iconst 1) 1 30 := ⟨at_29, rfl⟩
theorem d0_30 : D code 30 (.goto 4) 3 33 := ⟨at_30, rfl⟩
theorem d0_33 : D code 33 (.iconst 0) 1 34 := ⟨at_33, rfl⟩
theorem d0_34 : D code 34 (.istore 6) 2 36 := ⟨at_34, rfl⟩
theorem d0_36 : D code 36 (.bipush 32) 2 38 := ⟨at_36, rfl⟩
theorem d0_38 : D code 38 (.newarray .byte) 2 40 := ⟨at_38, rfl⟩
theorem d0_40 : D code 40 (.dup) 1 41 := ⟨at_40, rfl⟩
theorem d0_41 : D code 41 (.iconst 0) 1 42 := ⟨at_41, rfl⟩
theorem d0_42 : D code 42 (.bipush 122) 2 44 := ⟨at_42, rfl⟩
theorem d0_44 : D code 44 (.bastore) 1 45 := ⟨at_44, rfl⟩
theorem d0_45 : D code 45 (.dup) 1 46 := ⟨at_45, rfl⟩
theorem d0_46 : D code 46 (.iconst 1) 1 47 := ⟨at_46, rfl⟩
theorem d0_47 : D code 47 (.bipush 122) 2 49 := ⟨at_47, rfl⟩
theorem d0_49 : D code 49 (.bastore) 1 50 := ⟨at_49, rfl⟩
theorem d0_50 : D code 50 (.dup) 1 51 := ⟨at_50, rfl⟩
theorem d0_51 : D code 51 (.iconst 2) 1 52 := ⟨at_51, rfl⟩
theorem d0_52 : D code 52 (.bipush 122) 2 54 := ⟨at_52, rfl⟩
theorem d0_54 : D code 54 (.bastore) 1 55 := ⟨at_54, rfl⟩
theorem d0_55 : D code 55 (.dup) 1 56 := ⟨at_55, rfl⟩
theorem d0_56 : D code 56 (.iconst 3) 1 57 := ⟨at_56, rfl⟩
theorem d0_57 : D code 57 (.bipush 122) 2 59 := ⟨at_57, rfl⟩
theorem d0_59 : D code 59 (.bastore) 1 60 := ⟨at_59, rfl⟩
theorem d0_60 : D code 60 (.dup) 1 61 := ⟨at_60, rfl⟩
theorem d0_61 : D code 61 (.iconst 4) 1 62 := ⟨at_61, rfl⟩
theorem d0_62 : D code 62 (.bipush 122) 2 64 := ⟨at_62, rfl⟩
theorem d0_64 : D code 64 (.bastore) 1 65 := ⟨at_64, rfl⟩
theorem d0_65 : D code 65 (.dup) 1 66 := ⟨at_65, rfl⟩
theorem d0_66 : D code 66 (.iconst 5) 1 67 := ⟨at_66, rfl⟩
theorem d0_67 : D code 67 (.bipush 122) 2 69 := ⟨at_67, rfl⟩
theorem d0_69 : D code 69 (.bastore) 1 70 := ⟨at_69, rfl⟩
theorem d0_70 : D code 70 (.dup) 1 71 := ⟨at_70, rfl⟩
theorem d0_71 : D code 71 (.bipush 6) 2 73 := ⟨at_71, rfl⟩
theorem d0_73 : D code 73 (.bipush 122) 2 75 := ⟨at_73, rfl⟩
theorem d0_75 : D code 75 (.bastore) 1 76 := ⟨at_75, rfl⟩
theorem d0_76 : D code 76 (.dup) 1 77 := ⟨at_76, rfl⟩
theorem d0_77 : D code 77 (.bipush 7) 2 79 := ⟨at_77, rfl⟩
theorem d0_79 : D code 79 (.bipush 122) 2 81 := ⟨at_79, rfl⟩
theorem d0_81 : D code 81 (.bastore) 1 82 := ⟨at_81, rfl⟩
theorem d0_82 : D code 82 (.dup) 1 83 := ⟨at_82, rfl⟩
theorem d0_83 : D code 83 (.bipush 8) 2 85 := ⟨at_83, rfl⟩
theorem d0_85 : D code 85 (.bipush 122) 2 87 := ⟨at_85, rfl⟩
theorem d0_87 : D code 87 (.bastore) 1 88 := ⟨at_87, rfl⟩
theorem d0_88 : D code 88 (.dup) 1 89 := ⟨at_88, rfl⟩
theorem d0_89 : D code 89 (.bipush 9) 2 91 := ⟨at_89, rfl⟩
theorem d0_91 : D code 91 (.bipush 122) 2 93 := ⟨at_91, rfl⟩
theorem d0_93 : D code 93 (.bastore) 1 94 := ⟨at_93, rfl⟩
theorem d0_94 : D code 94 (.dup) 1 95 := ⟨at_94, rfl⟩
theorem d0_95 : D code 95 (.bipush 10) 2 97 := ⟨at_95, rfl⟩
theorem d0_97 : D code 97 (.bipush 122) 2 99 := ⟨at_97, rfl⟩
theorem d0_99 : D code 99 (.bastore) 1 100 := ⟨at_99, rfl⟩
theorem d0_100 : D code 100 (.dup) 1 101 := ⟨at_100, rfl⟩
theorem d0_101 : D code 101 (.bipush 11) 2 103 := ⟨at_101, rfl⟩
theorem d0_103 : D code 103 (.bipush 122) 2 105 := ⟨at_103, rfl⟩
theorem d0_105 : D code 105 (.bastore) 1 106 := ⟨at_105, rfl⟩
theorem d0_106 : D code 106 (.dup) 1 107 := ⟨at_106, rfl⟩
theorem d0_107 : D code 107 (.bipush 12) 2 109 := ⟨at_107, rfl⟩
theorem d0_109 : D code 109 (.bipush 122) 2 111 := ⟨at_109, rfl⟩
theorem d0_111 : D code 111 (.bastore) 1 112 := ⟨at_111, rfl⟩
theorem d0_112 : D code 112 (.dup) 1 113 := ⟨at_112, rfl⟩
theorem d0_113 : D code 113 (.bipush 13) 2 115 := ⟨at_113, rfl⟩
theorem d0_115 : D code 115 (.bipush 122) 2 117 := ⟨at_115, rfl⟩
theorem d0_117 : D code 117 (.bastore) 1 118 := ⟨at_117, rfl⟩
theorem d0_118 : D code 118 (.dup) 1 119 := ⟨at_118, rfl⟩
theorem d0_119 : D code 119 (.bipush 14) 2 121 := ⟨at_119, rfl⟩
theorem d0_121 : D code 121 (.bipush 122) 2 123 := ⟨at_121, rfl⟩
theorem d0_123 : D code 123 (.bastore) 1 124 := ⟨at_123, rfl⟩
theorem d0_124 : D code 124 (.dup) 1 125 := ⟨at_124, rfl⟩
theorem d0_125 : D code 125 (.bipush 15) 2 127 := ⟨at_125, rfl⟩
theorem d0_127 : D code 127 (.bipush 122) 2 129 := ⟨at_127, rfl⟩
theorem d0_129 : D code 129 (.bastore) 1 130 := ⟨at_129, rfl⟩
theorem d0_130 : D code 130 (.dup) 1 131 := ⟨at_130, rfl⟩
theorem d0_131 : D code 131 (.bipush 16) 2 133 := ⟨at_131, rfl⟩
theorem d0_133 : D code 133 (.bipush 122) 2 135 := ⟨at_133, rfl⟩
theorem d0_135 : D code 135 (.bastore) 1 136 := ⟨at_135, rfl⟩
theorem d0_136 : D code 136 (.dup) 1 137 := ⟨at_136, rfl⟩
theorem d0_137 : D code 137 (.bipush 17) 2 139 := ⟨at_137, rfl⟩
theorem d0_139 : D code 139 (.bipush 122) 2 141 := ⟨at_139, rfl⟩
theorem d0_141 : D code 141 (.bastore) 1 142 := ⟨at_141, rfl⟩
theorem d0_142 : D code 142 (.dup) 1 143 := ⟨at_142, rfl⟩
theorem d0_143 : D code 143 (.bipush 18) 2 145 := ⟨at_143, rfl⟩
theorem d0_145 : D code 145 (.bipush 122) 2 147 := ⟨at_145, rfl⟩
theorem d0_147 : D code 147 (.bastore) 1 148 := ⟨at_147, rfl⟩
theorem d0_148 : D code 148 (.dup) 1 149 := ⟨at_148, rfl⟩
theorem d0_149 : D code 149 (.bipush 19) 2 151 := ⟨at_149, rfl⟩
theorem d0_151 : D code 151 (.bipush 122) 2 153 := ⟨at_151, rfl⟩
theorem d0_153 : D code 153 (.bastore) 1 154 := ⟨at_153, rfl⟩
theorem d0_154 : D code 154 (.dup) 1 155 := ⟨at_154, rfl⟩
theorem d0_155 : D code 155 (.bipush 20) 2 157 := ⟨at_155, rfl⟩
theorem d0_157 : D code 157 (.bipush 122) 2 159 := ⟨at_157, rfl⟩
theorem d0_159 : D code 159 (.bastore) 1 160 := ⟨at_159, rfl⟩
theorem d0_160 : D code 160 (.dup) 1 161 := ⟨at_160, rfl⟩
theorem d0_161 : D code 161 (.bipush 21) 2 163 := ⟨at_161, rfl⟩
theorem d0_163 : D code 163 (.bipush 122) 2 165 := ⟨at_163, rfl⟩
theorem d0_165 : D code 165 (.bastore) 1 166 := ⟨at_165, rfl⟩
theorem d0_166 : D code 166 (.dup) 1 167 := ⟨at_166, rfl⟩
theorem d0_167 : D code 167 (.bipush 22) 2 169 := ⟨at_167, rfl⟩
theorem d0_169 : D code 169 (.bipush 122) 2 171 := ⟨at_169, rfl⟩
theorem d0_171 : D code 171 (.bastore) 1 172 := ⟨at_171, rfl⟩
theorem d0_172 : D code 172 (.dup) 1 173 := ⟨at_172, rfl⟩
theorem d0_173 : D code 173 (.bipush 23) 2 175 := ⟨at_173, rfl⟩
theorem d0_175 : D code 175 (.bipush 122) 2 177 := ⟨at_175, rfl⟩
theorem d0_177 : D code 177 (.bastore) 1 178 := ⟨at_177, rfl⟩
theorem d0_178 : D code 178 (.dup) 1 179 := ⟨at_178, rfl⟩
theorem d0_179 : D code 179 (.bipush 24) 2 181 := ⟨at_179, rfl⟩
theorem d0_181 : D code 181 (.bipush 122) 2 183 := ⟨at_181, rfl⟩
theorem d0_183 : D code 183 (.bastore) 1 184 := ⟨at_183, rfl⟩
theorem d0_184 : D code 184 (.dup) 1 185 := ⟨at_184, rfl⟩
theorem d0_185 : D code 185 (.bipush 25) 2 187 := ⟨at_185, rfl⟩
theorem d0_187 : D code 187 (.bipush 122) 2 189 := ⟨at_187, rfl⟩
theorem d0_189 : D code 189 (.bastore) 1 190 := ⟨at_189, rfl⟩
theorem d0_190 : D code 190 (.dup) 1 191 := ⟨at_190, rfl⟩
theorem d0_191 : D code 191 (.bipush 26) 2 193 := ⟨at_191, rfl⟩
theorem d0_193 : D code 193 (.bipush 122) 2 195 := ⟨at_193, rfl⟩
theorem d0_195 : D code 195 (.bastore) 1 196 := ⟨at_195, rfl⟩
theorem d0_196 : D code 196 (.dup) 1 197 := ⟨at_196, rfl⟩
theorem d0_197 : D code 197 (.bipush 27) 2 199 := ⟨at_197, rfl⟩
theorem d0_199 : D code 199 (.bipush 122) 2 201 := ⟨at_199, rfl⟩
theorem d0_201 : D code 201 (.bastore) 1 202 := ⟨at_201, rfl⟩
theorem d0_202 : D code 202 (.dup) 1 203 := ⟨at_202, rfl⟩
theorem d0_203 : D code 203 (.bipush 28) 2 205 := ⟨at_203, rfl⟩
theorem d0_205 : D code 205 (.bipush 122) 2 207 := ⟨at_205, rfl⟩
theorem d0_207 : D code 207 (.bastore) 1 208 := ⟨at_207, rfl⟩
theorem d0_208 : D code 208 (.dup) 1 209 := ⟨at_208, rfl⟩
theorem d0_209 : D code 209 (.bipush 29) 2 211 := ⟨at_209, rfl⟩
theorem d0_211 : D code 211 (.bipush 122) 2 213 := ⟨at_211, rfl⟩
theorem d0_213 : D code 213 (.bastore) 1 214 := ⟨at_213, rfl⟩
theorem d0_214 : D code 214 (.dup) 1 215 := ⟨at_214, rfl⟩
theorem d0_215 : D code 215 (.bipush 30) 2 217 := ⟨at_215, rfl⟩
theorem d0_217 : D code 217 (.bipush 122) 2 219 := ⟨at_217, rfl⟩
theorem d0_219 : D code 219 (.bastore) 1 220 := ⟨at_219, rfl⟩
theorem d0_220 : D code 220 (.dup) 1 221 := ⟨at_220, rfl⟩
theorem d0_221 : D code 221 (.bipush 31) 2 223 := ⟨at_221, rfl⟩
theorem d0_223 : D code 223 (.bipush 122) 2 225 := ⟨at_223, rfl⟩
theorem d0_225 : D code 225 (.bastore) 1 226 := ⟨at_225, rfl⟩
theorem d0_226 : D code 226 (.astore 7) 2 228 := ⟨at_226, rfl⟩
theorem d0_228 : D code 228 (.iconst 3) 1 229 := ⟨at_228, rfl⟩
theorem d0_229 : D code 229 (.newarray .int) 2 231 := ⟨at_229, rfl⟩
theorem d0_231 : D code 231 (.astore 8) 2 233 := ⟨at_231, rfl⟩
theorem d0_233 : D code 233 (.aload 7) 2 235 := ⟨at_233, rfl⟩
theorem d0_235 : D code 235 (.iconst 0) 1 236 := ⟨at_235, rfl⟩
theorem d0_236 : D code 236 (.aload 8) 2 238 := ⟨at_236, rfl⟩
theorem d0_238 : D code 238 (.iconst 0) 1 239 := ⟨at_238, rfl⟩
theorem d0_239 : D code 239 (.iload_n 0) 1 240 := ⟨at_239, rfl⟩
theorem d0_240 : D code 240 (.iload_n 1) 1 241 := ⟨at_240, rfl⟩
theorem d0_241 : D code 241 (.iload 4) 2 243 := ⟨at_241, rfl⟩
theorem d0_243 : D code 243 (.iload 6) 2 245 := ⟨at_243, rfl⟩
theorem d0_245 : D code 245 (.invokestatic 13) 3 248 := ⟨at_245, rfl⟩
theorem d0_248 : D code 248 (.istore 9) 2 250 := ⟨at_248, rfl⟩
theorem d0_250 : D code 250 (.iload 4) 2 252 := ⟨at_250, rfl⟩
theorem d0_252 : D code 252 (.iconst 1) 1 253 := ⟨at_252, rfl⟩
theorem d0_253 : D code 253 (.if_icmp .le 30) 3 256 := ⟨at_253, rfl⟩
theorem d0_256 : D code 256 (.aload 7) 2 258 := ⟨at_256, rfl⟩
theorem d0_258 : D code 258 (.iload 9) 2 260 := ⟨at_258, rfl⟩
theorem d0_260 : D code 260 (.bipush 44) 2 262 := ⟨at_260, rfl⟩
theorem d0_262 : D code 262 (.bastore) 1 263 := ⟨at_262, rfl⟩
theorem d0_263 : D code 263 (.aload 7) 2 265 := ⟨at_263, rfl⟩
theorem d0_265 : D code 265 (.iload 9) 2 267 := ⟨at_265, rfl⟩
theorem d0_267 : D code 267 (.iconst 1) 1 268 := ⟨at_267, rfl⟩
theorem d0_268 : D code 268 (.iadd) 1 269 := ⟨at_268, rfl⟩
theorem d0_269 : D code 269 (.aload 8) 2 271 := ⟨at_269, rfl⟩
theorem d0_271 : D code 271 (.iconst 1) 1 272 := ⟨at_271, rfl⟩
theorem d0_272 : D code 272 (.iload_n 0) 1 273 := ⟨at_272, rfl⟩
theorem d0_273 : D code 273 (.iload_n 2) 1 274 := ⟨at_273, rfl⟩
theorem d0_274 : D code 274 (.iload 4) 2 276 := ⟨at_274, rfl⟩
theorem d0_276 : D code 276 (.iload 6) 2 278 := ⟨at_276, rfl⟩
theorem d0_278 : D code 278 (.invokestatic 13) 3 281 := ⟨at_278, rfl⟩
theorem d0_281 : D code 281 (.istore 9) 2 283 := ⟨at_281, rfl⟩
theorem d0_283 : D code 283 (.iload 4) 2 285 := ⟨at_283, rfl⟩
theorem d0_285 : D code 285 (.iconst 2) 1 286 := ⟨at_285, rfl⟩
theorem d0_286 : D code 286 (.if_icmp .le 30) 3 289 := ⟨at_286, rfl⟩
theorem d0_289 : D code 289 (.aload 7) 2 291 := ⟨at_289, rfl⟩
theorem d0_291 : D code 291 (.iload 9) 2 293 := ⟨at_291, rfl⟩
theorem d0_293 : D code 293 (.bipush 44) 2 295 := ⟨at_293, rfl⟩
theorem d0_295 : D code 295 (.bastore) 1 296 := ⟨at_295, rfl⟩
theorem d0_296 : D code 296 (.aload 7) 2 298 := ⟨at_296, rfl⟩
theorem d0_298 : D code 298 (.iload 9) 2 300 := ⟨at_298, rfl⟩
theorem d0_300 : D code 300 (.iconst 1) 1 301 := ⟨at_300, rfl⟩
theorem d0_301 : D code 301 (.iadd) 1 302 := ⟨at_301, rfl⟩
theorem d0_302 : D code 302 (.aload 8) 2 304 := ⟨at_302, rfl⟩
theorem d0_304 : D code 304 (.iconst 2) 1 305 := ⟨at_304, rfl⟩
theorem d0_305 : D code 305 (.iload_n 0) 1 306 := ⟨at_305, rfl⟩
theorem d0_306 : D code 306 (.iload_n 3) 1 307 := ⟨at_306, rfl⟩
theorem d0_307 : D code 307 (.iload 4) 2 309 := ⟨at_307, rfl⟩
theorem d0_309 : D code 309 (.iload 6) 2 311 := ⟨at_309, rfl⟩
theorem d0_311 : D code 311 (.invokestatic 13) 3 314 := ⟨at_311, rfl⟩
theorem d0_314 : D code 314 (.istore 9) 2 316 := ⟨at_314, rfl⟩
theorem d0_316 : D code 316 (.iload 5) 2 318 := ⟨at_316, rfl⟩
theorem d0_318 : D code 318 (.ifCond .ne 13) 3 321 := ⟨at_318, rfl⟩
theorem d0_321 : D code 321 (.aload 7) 2 323 := ⟨at_321, rfl⟩
theorem d0_323 : D code 323 (.iload 9) 2 325 := ⟨at_323, rfl⟩
theorem d0_325 : D code 325 (.bipush 10) 2 327 := ⟨at_325, rfl⟩
theorem d0_327 : D code 327 (.bastore) 1 328 := ⟨at_327, rfl⟩
theorem d0_328 : D code 328 (.goto 25) 3 331 := ⟨at_328, rfl⟩
theorem d0_331 : D code 331 (.iload 5) 2 333 := ⟨at_331, rfl⟩
theorem d0_333 : D code 333 (.iconst 1) 1 334 := ⟨at_333, rfl⟩
theorem d0_334 : D code 334 (.if_icmp .ne 19) 3 337 := ⟨at_334, rfl⟩
theorem d0_337 : D code 337 (.aload 7) 2 339 := ⟨at_337, rfl⟩
theorem d0_339 : D code 339 (.iload 9) 2 341 := ⟨at_339, rfl⟩
theorem d0_341 : D code 341 (.bipush 13) 2 343 := ⟨at_341, rfl⟩
theorem d0_343 : D code 343 (.bastore) 1 344 := ⟨at_343, rfl⟩
theorem d0_344 : D code 344 (.aload 7) 2 346 := ⟨at_344, rfl⟩
theorem d0_346 : D code 346 (.iload 9) 2 348 := ⟨at_346, rfl⟩
theorem d0_348 : D code 348 (.iconst 1) 1 349 := ⟨at_348, rfl⟩
theorem d0_349 : D code 349 (.iadd) 1 350 := ⟨at_349, rfl⟩
theorem d0_350 : D code 350 (.bipush 10) 2 352 := ⟨at_350, rfl⟩
theorem d0_352 : D code 352 (.bastore) 1 353 := ⟨at_352, rfl⟩
theorem d0_353 : D code 353 (.new 17) 3 356 := ⟨at_353, rfl⟩
theorem d0_356 : D code 356 (.dup) 1 357 := ⟨at_356, rfl⟩
theorem d0_357 : D code 357 (.aload 7) 2 359 := ⟨at_357, rfl⟩
theorem d0_359 : D code 359 (.invokespecial 19) 3 362 := ⟨at_359, rfl⟩
theorem d0_362 : D code 362 (.astore 10) 2 364 := ⟨at_362, rfl⟩
theorem d0_364 : D code 364 (.aload 10) 2 366 := ⟨at_364, rfl⟩
theorem d0_366 : D code 366 (.invokevirtual 22) 3 369 := ⟨at_366, rfl⟩
theorem d0_369 : D code 369 (.ifCond .ne 5) 3 372 := ⟨at_369, rfl⟩
theorem d0_374 : D code 374 (.aload 10) 2 376 := ⟨at_374, rfl⟩
theorem d0_376 : D code 376 (.invokevirtual 26) 3 379 := ⟨at_376, rfl⟩
theorem d0_379 : D code 379 (.iload 4) 2 381 := ⟨at_379, rfl⟩
theorem d0_381 : D code 381 (.if_icmp .eq 5) 3 384 := ⟨at_381, rfl⟩
theorem d0_386 : D code 386 (.aload 10) 2 388 := ⟨at_386, rfl⟩
theorem d0_388 : D code 388 (.iconst 0) 1 389 := ⟨at_388, rfl⟩
theorem d0_389 : D code 389 (.invokevirtual 30) 3 392 := ⟨at_389, rfl⟩
theorem d0_392 : D code 392 (.aload 8) 2 394 := ⟨at_392, rfl⟩
theorem d0_394 : D code 394 (.iconst 0) 1 395 := ⟨at_394, rfl⟩
theorem d0_395 : D code 395 (.iaload) 1 396 := ⟨at_395, rfl⟩
theorem d0_396 : D code 396 (.if_icmp .ne 7) 3 399 := ⟨at_396, rfl⟩
theorem d0_399 : D code 399 (.iconst 1) 1 400 := ⟨at_399, rfl⟩
theorem d0_400 : D code 400 (.goto 4) 3 403 := ⟨at_400, rfl⟩
theorem d0_404 : D code 404 (.istore 11) 2 406 := ⟨at_404, rfl⟩
theorem d0_406 : D code 406 (.iload 4) 2 408 := ⟨at_406, rfl⟩
theorem d0_408 : D code 408 (.iconst 1) 1 409 := ⟨at_408, rfl⟩
theorem d0_409 : D code 409 (.if_icmp .le 28) 3 412 := ⟨at_409, rfl⟩
theorem d0_412 : D code 412 (.iload 11) 2 414 := ⟨at_412, rfl⟩
theorem d0_414 : D code 414 (.ifCond .eq 20) 3 417 := ⟨at_414, rfl⟩
theorem d0_417 : D code 417 (.aload 10) 2 419 := ⟨at_417, rfl⟩
theorem d0_419 : D code 419 (.iconst 1) 1 420 := ⟨at_419, rfl⟩
theorem d0_420 : D code 420 (.invokevirtual 30) 3 423 := ⟨at_420, rfl⟩
theorem d0_423 : D code 423 (.aload 8) 2 425 := ⟨at_423, rfl⟩
theorem d0_425 : D code 425 (.iconst 1) 1 426 := ⟨at_425, rfl⟩
theorem d0_426 : D code 426 (.iaload) 1 427 := ⟨at_426, rfl⟩
theorem d0_427 : D code 427 (.if_icmp .ne 7) 3 430 := ⟨at_427, rfl⟩
theorem d0_430 : D code 430 (.iconst 1) 1 431 := ⟨at_430, rfl⟩
theorem d0_431 : D code 431 (.goto 4) 3 434 := ⟨at_431, rfl⟩
theorem d0_435 : D code 435 (.istore 11) 2 437 := ⟨at_435, rfl⟩
theorem d0_437 : D code 437 (.iload 4) 2 439 := ⟨at_437, rfl⟩
theorem d0_439 : D code 439 (.iconst 2) 1 440 := ⟨at_439, rfl⟩
theorem d0_440 : D code 440 (.if_icmp .le 28) 3 443 := ⟨at_440, rfl⟩
theorem d0_443 : D code 443 (.iload 11) 2 445 := ⟨at_443, rfl⟩
theorem d0_445 : D code 445 (.ifCond .eq 20) 3 448 := ⟨at_445, rfl⟩
theorem d0_448 : D code 448 (.aload 10) 2 450 := ⟨at_448, rfl⟩
theorem d0_450 : D code 450 (.iconst 2) 1 451 := ⟨at_450, rfl⟩
theorem d0_451 : D code 451 (.invokevirtual 30) 3 454 := ⟨at_451, rfl⟩
theorem d0_454 : D code 454 (.aload 8) 2 456 := ⟨at_454, rfl⟩
theorem d0_456 : D code 456 (.iconst 2) 1 457 := ⟨at_456, rfl⟩
theorem d0_457 : D code 457 (.iaload) 1 458 := ⟨at_457, rfl⟩
theorem d0_458 : D code 458 (.if_icmp .ne 7) 3 461 := ⟨at_458, rfl⟩
theorem d0_461 : D code 461 (.iconst 1) 1 462 := ⟨at_461, rfl⟩
theorem d0_462 : D code 462 (.goto 4) 3 465 := ⟨at_462, rfl⟩
theorem d0_466 : D code 466 (.istore 11) 2 468 := ⟨at_466, rfl⟩
theorem d0_468 : D code 468 (.iload 11) 2 470 := ⟨at_468, rfl⟩
theorem d0_470 : D code 470 (.ireturn) 1 471 := ⟨at_470, rfl⟩
theorem d1_0 : D method_3_code 0 (.iload 4) 2 2 := ⟨by decide +kernel, rfl⟩
theorem d1_2 : D method_3_code 2 (.iconst 2) 1 3 := ⟨by decide +kernel, rfl⟩
theorem d1_3 : D method_3_code 3 (.iconst 2) 1 4 := ⟨by decide +kernel, rfl⟩
theorem d1_4 : D method_3_code 4 (.iload_n 3) 1 5 := ⟨by decide +kernel, rfl⟩
theorem d1_5 : D method_3_code 5 (.imul) 1 6 := ⟨by decide +kernel, rfl⟩
theorem d1_6 : D method_3_code 6 (.iadd) 1 7 := ⟨by decide +kernel, rfl⟩
theorem d1_7 : D method_3_code 7 (.iushr) 1 8 := ⟨by decide +kernel, rfl⟩
theorem d1_8 : D method_3_code 8 (.iconst 3) 1 9 := ⟨by decide +kernel, rfl⟩
theorem d1_9 : D method_3_code 9 (.iand) 1 10 := ⟨by decide +kernel, rfl⟩
theorem d1_10 : D method_3_code 10 (.istore 8) 2 12 := ⟨by decide +kernel, rfl⟩
theorem d1_12 : D method_3_code 12 (.iload 4) 2 14 := ⟨by decide +kernel, rfl⟩
theorem d1_14 : D method_3_code 14 (.bipush 8) 2 16 := ⟨by decide +kernel, rfl⟩
theorem d1_16 : D method_3_code 16 (.iload_n 3) 1 17 := ⟨by decide +kernel, rfl⟩
theorem d1_17 : D method_3_code 17 (.iadd) 1 18 := ⟨by decide +kernel, rfl⟩
theorem d1_18 : D method_3_code 18 (.iushr) 1 19 := ⟨by decide +kernel, rfl⟩
theorem d1_19 : D method_3_code 19 (.iconst 1) 1 20 := ⟨by decide +kernel, rfl⟩
theorem d1_20 : D method_3_code 20 (.iand) 1 21 := ⟨by decide +kernel, rfl⟩
theorem d1_21 : D method_3_code 21 (.ifCond .eq 7) 3 24 := ⟨by decide +kernel, rfl⟩
theorem d1_24 : D method_3_code 24 (.iconst 1) 1 25 := ⟨by decide +kernel, rfl⟩
theorem d1_25 : D method_3_code 25 (.goto 4) 3 28 := ⟨by decide +kernel, rfl⟩
theorem d1_28 : D method_3_code 28 (.iconst 0) 1 29 := ⟨by decide +kernel, rfl⟩
theorem d1_29 : D method_3_code 29 (.istore 9) 2 31 := ⟨by decide +kernel, rfl⟩
theorem d1_31 : D method_3_code 31 (.iload_n 3) 1 32 := ⟨by decide +kernel, rfl⟩
theorem d1_32 : D method_3_code 32 (.iload 6) 2 34 := ⟨by decide +kernel, rfl⟩
theorem d1_34 : D method_3_code 34 (.iconst 1) 1 35 := ⟨by decide +kernel, rfl⟩
theorem d1_35 : D method_3_code 35 (.isub) 1 36 := ⟨by decide +kernel, rfl⟩
theorem d1_36 : D method_3_code 36 (.if_icmp .ne 7) 3 39 := ⟨by decide +kernel, rfl⟩
theorem d1_39 : D method_3_code 39 (.iconst 1) 1 40 := ⟨by decide +kernel, rfl⟩
theorem d1_40 : D method_3_code 40 (.goto 4) 3 43 := ⟨by decide +kernel, rfl⟩
theorem d1_43 : D method_3_code 43 (.iconst 0) 1 44 := ⟨by decide +kernel, rfl⟩
theorem d1_44 : D method_3_code 44 (.istore 10) 2 46 := ⟨by decide +kernel, rfl⟩
theorem d1_46 : D method_3_code 46 (.iload_n 1) 1 47 := ⟨by decide +kernel, rfl⟩
theorem d1_47 : D method_3_code 47 (.istore 11) 2 49 := ⟨by decide +kernel, rfl⟩
theorem d1_49 : D method_3_code 49 (.iload 9) 2 51 := ⟨by decide +kernel, rfl⟩
theorem d1_51 : D method_3_code 51 (.ifCond .eq 15) 3 54 := ⟨by decide +kernel, rfl⟩
theorem d1_54 : D method_3_code 54 (.aload_n 0) 1 55 := ⟨by decide +kernel, rfl⟩
theorem d1_55 : D method_3_code 55 (.iload 11) 2 57 := ⟨by decide +kernel, rfl⟩
theorem d1_57 : D method_3_code 57 (.bipush 34) 2 59 := ⟨by decide +kernel, rfl⟩
theorem d1_59 : D method_3_code 59 (.bastore) 1 60 := ⟨by decide +kernel, rfl⟩
theorem d1_60 : D method_3_code 60 (.iload 11) 2 62 := ⟨by decide +kernel, rfl⟩
theorem d1_62 : D method_3_code 62 (.iconst 1) 1 63 := ⟨by decide +kernel, rfl⟩
theorem d1_63 : D method_3_code 63 (.iadd) 1 64 := ⟨by decide +kernel, rfl⟩
theorem d1_64 : D method_3_code 64 (.istore 11) 2 66 := ⟨by decide +kernel, rfl⟩
theorem d1_66 : D method_3_code 66 (.iload 11) 2 68 := ⟨by decide +kernel, rfl⟩
theorem d1_68 : D method_3_code 68 (.istore 12) 2 70 := ⟨by decide +kernel, rfl⟩
theorem d1_70 : D method_3_code 70 (.iload 8) 2 72 := ⟨by decide +kernel, rfl⟩
theorem d1_72 : D method_3_code 72 (.ifCond .le 29) 3 75 := ⟨by decide +kernel, rfl⟩
theorem d1_75 : D method_3_code 75 (.aload_n 0) 1 76 := ⟨by decide +kernel, rfl⟩
theorem d1_76 : D method_3_code 76 (.iload 11) 2 78 := ⟨by decide +kernel, rfl⟩
theorem d1_78 : D method_3_code 78 (.iload 5) 2 80 := ⟨by decide +kernel, rfl⟩
theorem d1_80 : D method_3_code 80 (.bipush 127) 2 82 := ⟨by decide +kernel, rfl⟩
theorem d1_82 : D method_3_code 82 (.iand) 1 83 := ⟨by decide +kernel, rfl⟩
theorem d1_83 : D method_3_code 83 (.iload 9) 2 85 := ⟨by decide +kernel, rfl⟩
theorem d1_85 : D method_3_code 85 (.iload 8) 2 87 := ⟨by decide +kernel, rfl⟩
theorem d1_87 : D method_3_code 87 (.iconst 1) 1 88 := ⟨by decide +kernel, rfl⟩
theorem d1_88 : D method_3_code 88 (.if_icmp .ne 7) 3 91 := ⟨by decide +kernel, rfl⟩
theorem d1_91 : D method_3_code 91 (.iconst 1) 1 92 := ⟨by decide +kernel, rfl⟩
theorem d1_92 : D method_3_code 92 (.goto 4) 3 95 := ⟨by decide +kernel, rfl⟩
theorem d1_95 : D method_3_code 95 (.iconst 0) 1 96 := ⟨by decide +kernel, rfl⟩
theorem d1_96 : D method_3_code 96 (.invokestatic 7) 3 99 := ⟨by decide +kernel, rfl⟩
theorem d1_99 : D method_3_code 99 (.istore 11) 2 101 := ⟨by decide +kernel, rfl⟩
theorem d1_101 : D method_3_code 101 (.iload 8) 2 103 := ⟨by decide +kernel, rfl⟩
theorem d1_103 : D method_3_code 103 (.iconst 1) 1 104 := ⟨by decide +kernel, rfl⟩
theorem d1_104 : D method_3_code 104 (.if_icmp .le 32) 3 107 := ⟨by decide +kernel, rfl⟩
theorem d1_107 : D method_3_code 107 (.aload_n 0) 1 108 := ⟨by decide +kernel, rfl⟩
theorem d1_108 : D method_3_code 108 (.iload 11) 2 110 := ⟨by decide +kernel, rfl⟩
theorem d1_110 : D method_3_code 110 (.iload 5) 2 112 := ⟨by decide +kernel, rfl⟩
theorem d1_112 : D method_3_code 112 (.bipush 8) 2 114 := ⟨by decide +kernel, rfl⟩
theorem d1_114 : D method_3_code 114 (.iushr) 1 115 := ⟨by decide +kernel, rfl⟩
theorem d1_115 : D method_3_code 115 (.bipush 127) 2 117 := ⟨by decide +kernel, rfl⟩
theorem d1_117 : D method_3_code 117 (.iand) 1 118 := ⟨by decide +kernel, rfl⟩
theorem d1_118 : D method_3_code 118 (.iload 9) 2 120 := ⟨by decide +kernel, rfl⟩
theorem d1_120 : D method_3_code 120 (.iload 8) 2 122 := ⟨by decide +kernel, rfl⟩
theorem d1_122 : D method_3_code 122 (.iconst 2) 1 123 := ⟨by decide +kernel, rfl⟩
theorem d1_123 : D method_3_code 123 (.if_icmp .ne 7) 3 126 := ⟨by decide +kernel, rfl⟩
theorem d1_126 : D method_3_code 126 (.iconst 1) 1 127 := ⟨by decide +kernel, rfl⟩
theorem d1_127 : D method_3_code 127 (.goto 4) 3 130 := ⟨by decide +kernel, rfl⟩
theorem d1_130 : D method_3_code 130 (.iconst 0) 1 131 := ⟨by decide +kernel, rfl⟩
theorem d1_131 : D method_3_code 131 (.invokestatic 7) 3 134 := ⟨by decide +kernel, rfl⟩
theorem d1_134 : D method_3_code 134 (.istore 11) 2 136 := ⟨by decide +kernel, rfl⟩
theorem d1_136 : D method_3_code 136 (.iload 8) 2 138 := ⟨by decide +kernel, rfl⟩
theorem d1_138 : D method_3_code 138 (.iconst 2) 1 139 := ⟨by decide +kernel, rfl⟩
theorem d1_139 : D method_3_code 139 (.if_icmp .le 22) 3 142 := ⟨by decide +kernel, rfl⟩
theorem d1_142 : D method_3_code 142 (.aload_n 0) 1 143 := ⟨by decide +kernel, rfl⟩
theorem d1_143 : D method_3_code 143 (.iload 11) 2 145 := ⟨by decide +kernel, rfl⟩
theorem d1_145 : D method_3_code 145 (.iload 5) 2 147 := ⟨by decide +kernel, rfl⟩
theorem d1_147 : D method_3_code 147 (.bipush 16) 2 149 := ⟨by decide +kernel, rfl⟩
theorem d1_149 : D method_3_code 149 (.iushr) 1 150 := ⟨by decide +kernel, rfl⟩
theorem d1_150 : D method_3_code 150 (.bipush 127) 2 152 := ⟨by decide +kernel, rfl⟩
theorem d1_152 : D method_3_code 152 (.iand) 1 153 := ⟨by decide +kernel, rfl⟩
theorem d1_153 : D method_3_code 153 (.iload 9) 2 155 := ⟨by decide +kernel, rfl⟩
theorem d1_155 : D method_3_code 155 (.iconst 1) 1 156 := ⟨by decide +kernel, rfl⟩
theorem d1_156 : D method_3_code 156 (.invokestatic 7) 3 159 := ⟨by decide +kernel, rfl⟩
theorem d1_159 : D method_3_code 159 (.istore 11) 2 161 := ⟨by decide +kernel, rfl⟩
theorem d1_161 : D method_3_code 161 (.iload 10) 2 163 := ⟨by decide +kernel, rfl⟩
theorem d1_163 : D method_3_code 163 (.ifCond .eq 41) 3 166 := ⟨by decide +kernel, rfl⟩
theorem d1_166 : D method_3_code 166 (.iload 7) 2 168 := ⟨by decide +kernel, rfl⟩
theorem d1_168 : D method_3_code 168 (.ifCond .eq 36) 3 171 := ⟨by decide +kernel, rfl⟩
theorem d1_171 : D method_3_code 171 (.iload 9) 2 173 := ⟨by decide +kernel, rfl⟩
theorem d1_173 : D method_3_code 173 (.ifCond .eq 20) 3 176 := ⟨by decide +kernel, rfl⟩
theorem d1_176 : D method_3_code 176 (.aload_n 0) 1 177 := ⟨by decide +kernel, rfl⟩
theorem d1_177 : D method_3_code 177 (.bipush 31) 2 179 := ⟨by decide +kernel, rfl⟩
theorem d1_179 : D method_3_code 179 (.bipush 34) 2 181 := ⟨by decide +kernel, rfl⟩
theorem d1_181 : D method_3_code 181 (.bastore) 1 182 := ⟨by decide +kernel, rfl⟩
theorem d1_182 : D method_3_code 182 (.aload_n 2) 1 183 := ⟨by decide +kernel, rfl⟩
theorem d1_183 : D method_3_code 183 (.iload_n 3) 1 184 := ⟨by decide +kernel, rfl⟩
theorem d1_184 : D method_3_code 184 (.bipush 31) 2 186 := ⟨by decide +kernel, rfl⟩
theorem d1_186 : D method_3_code 186 (.iload 12) 2 188 := ⟨by decide +kernel, rfl⟩
theorem d1_188 : D method_3_code 188 (.isub) 1 189 := ⟨by decide +kernel, rfl⟩
theorem d1_189 : D method_3_code 189 (.iastore) 1 190 := ⟨by decide +kernel, rfl⟩
theorem d1_190 : D method_3_code 190 (.goto 11) 3 193 := ⟨by decide +kernel, rfl⟩
theorem d1_193 : D method_3_code 193 (.aload_n 2) 1 194 := ⟨by decide +kernel, rfl⟩
theorem d1_194 : D method_3_code 194 (.iload_n 3) 1 195 := ⟨by decide +kernel, rfl⟩
theorem d1_195 : D method_3_code 195 (.bipush 32) 2 197 := ⟨by decide +kernel, rfl⟩
theorem d1_197 : D method_3_code 197 (.iload 12) 2 199 := ⟨by decide +kernel, rfl⟩
theorem d1_199 : D method_3_code 199 (.isub) 1 200 := ⟨by decide +kernel, rfl⟩
theorem d1_200 : D method_3_code 200 (.iastore) 1 201 := ⟨by decide +kernel, rfl⟩
theorem d1_201 : D method_3_code 201 (.bipush 32) 2 203 := ⟨by decide +kernel, rfl⟩
theorem d1_203 : D method_3_code 203 (.ireturn) 1 204 := ⟨by decide +kernel, rfl⟩
theorem d1_204 : D method_3_code 204 (.aload_n 2) 1 205 := ⟨by decide +kernel, rfl⟩
theorem d1_205 : D method_3_code 205 (.iload_n 3) 1 206 := ⟨by decide +kernel, rfl⟩
theorem d1_206 : D method_3_code 206 (.iload 11) 2 208 := ⟨by decide +kernel, rfl⟩
theorem d1_208 : D method_3_code 208 (.iload 12) 2 210 := ⟨by decide +kernel, rfl⟩
theorem d1_210 : D method_3_code 210 (.isub) 1 211 := ⟨by decide +kernel, rfl⟩
theorem d1_211 : D method_3_code 211 (.iastore) 1 212 := ⟨by decide +kernel, rfl⟩
theorem d1_212 : D method_3_code 212 (.iload 9) 2 214 := ⟨by decide +kernel, rfl⟩
theorem d1_214 : D method_3_code 214 (.ifCond .eq 15) 3 217 := ⟨by decide +kernel, rfl⟩
theorem d1_217 : D method_3_code 217 (.aload_n 0) 1 218 := ⟨by decide +kernel, rfl⟩
theorem d1_218 : D method_3_code 218 (.iload 11) 2 220 := ⟨by decide +kernel, rfl⟩
theorem d1_220 : D method_3_code 220 (.bipush 34) 2 222 := ⟨by decide +kernel, rfl⟩
theorem d1_222 : D method_3_code 222 (.bastore) 1 223 := ⟨by decide +kernel, rfl⟩
theorem d1_223 : D method_3_code 223 (.iload 11) 2 225 := ⟨by decide +kernel, rfl⟩
theorem d1_225 : D method_3_code 225 (.iconst 1) 1 226 := ⟨by decide +kernel, rfl⟩
theorem d1_226 : D method_3_code 226 (.iadd) 1 227 := ⟨by decide +kernel, rfl⟩
theorem d1_227 : D method_3_code 227 (.istore 11) 2 229 := ⟨by decide +kernel, rfl⟩
theorem d1_229 : D method_3_code 229 (.iload 11) 2 231 := ⟨by decide +kernel, rfl⟩
theorem d1_231 : D method_3_code 231 (.ireturn) 1 232 := ⟨by decide +kernel, rfl⟩
theorem d2_0 : D prog_1_method_1_code 0 (.aload_n 0) 1 1 := ⟨by decide +kernel, rfl⟩
theorem d2_1 : D prog_1_method_1_code 1 (.invokespecial 1) 3 4 := ⟨by decide +kernel, rfl⟩
theorem d2_4 : D prog_1_method_1_code 4 (.aload_n 0) 1 5 := ⟨by decide +kernel, rfl⟩
theorem d2_5 : D prog_1_method_1_code 5 (.bipush 64) 2 7 := ⟨by decide +kernel, rfl⟩
theorem d2_7 : D prog_1_method_1_code 7 (.newarray .int) 2 9 := ⟨by decide +kernel, rfl⟩
theorem d2_9 : D prog_1_method_1_code 9 (.putfield 9) 3 12 := ⟨by decide +kernel, rfl⟩
theorem d2_12 : D prog_1_method_1_code 12 (.aload_n 0) 1 13 := ⟨by decide +kernel, rfl⟩
theorem d2_13 : D prog_1_method_1_code 13 (.bipush 64) 2 15 := ⟨by decide +kernel, rfl⟩
theorem d2_15 : D prog_1_method_1_code 15 (.newarray .int) 2 17 := ⟨by decide +kernel, rfl⟩
theorem d2_17 : D prog_1_method_1_code 17 (.putfield 13) 3 20 := ⟨by decide +kernel, rfl⟩
theorem d2_20 : D prog_1_method_1_code 20 (.aload_n 0) 1 21 := ⟨by decide +kernel, rfl⟩
theorem d2_21 : D prog_1_method_1_code 21 (.bipush 64) 2 23 := ⟨by decide +kernel, rfl⟩
theorem d2_23 : D prog_1_method_1_code 23 (.newarray .boolean) 2 25 := ⟨by decide +kernel, rfl⟩
theorem d2_25 : D prog_1_method_1_code 25 (.putfield 16) 3 28 := ⟨by decide +kernel, rfl⟩
theorem d2_28 : D prog_1_method_1_code 28 (.aload_n 0) 1 29 := ⟨by decide +kernel, rfl⟩
theorem d2_29 : D prog_1_method_1_code 29 (.aload_n 1) 1 30 := ⟨by decide +kernel, rfl⟩
theorem d2_30 : D prog_1_method_1_code 30 (.putfield 20) 3 33 := ⟨by decide +kernel, rfl⟩
theorem d2_33 : D prog_1_method_1_code 33 (.aload_n 0) 1 34 := ⟨by decide +kernel, rfl⟩
theorem d2_34 : D prog_1_method_1_code 34 (.aload_n 1) 1 35 := ⟨by decide +kernel, rfl⟩
theorem d2_35 : D prog_1_method_1_code 35 (.arraylength) 1 36 := ⟨by decide +kernel, rfl⟩
theorem d2_36 : D prog_1_method_1_code 36 (.putfield 24) 3 39 := ⟨by decide +kernel, rfl⟩
theorem d2_39 : D prog_1_method_1_code 39 (.aload_n 0) 1 40 := ⟨by decide +kernel, rfl⟩
theorem d2_40 : D prog_1_method_1_code 40 (.aload_n 1) 1 41 := ⟨by decide +kernel, rfl⟩
theorem d2_41 : D prog_1_method_1_code 41 (.iconst 0) 1 42 := ⟨by decide +kernel, rfl⟩
theorem d2_42 : D prog_1_method_1_code 42 (.aload_n 0) 1 43 := ⟨by decide +kernel, rfl⟩
theorem d2_43 : D prog_1_method_1_code 43 (.getfield 24) 3 46 := ⟨by decide +kernel, rfl⟩
theorem d2_46 : D prog_1_method_1_code 46 (.getstatic 28) 3 49 := ⟨by decide +kernel, rfl⟩
theorem d2_49 : D prog_1_method_1_code 49 (.arraylength) 1 50 := ⟨by decide +kernel, rfl⟩
theorem d2_50 : D prog_1_method_1_code 50 (.invokestatic 31) 3 53 := ⟨by decide +kernel, rfl⟩
theorem d2_53 : D prog_1_method_1_code 53 (.getstatic 28) 3 56 := ⟨by decide +kernel, rfl⟩
theorem d2_56 : D prog_1_method_1_code 56 (.iconst 0) 1 57 := ⟨by decide +kernel, rfl⟩
theorem d2_57 : D prog_1_method_1_code 57 (.getstatic 28) 3 60 := ⟨by decide +kernel, rfl⟩
theorem d2_60 : D prog_1_method_1_code 60 (.arraylength) 1 61 := ⟨by decide +kernel, rfl⟩
theorem d2_61 : D prog_1_method_1_code 61 (.invokestatic 37) 3 64 := ⟨by decide +kernel, rfl⟩
theorem d2_64 : D prog_1_method_1_code 64 (.ifCond .eq 10) 3 67 := ⟨by decide +kernel, rfl⟩
theorem d2_74 : D prog_1_method_1_code 74 (.iconst 0) 1 75 := ⟨by decide +kernel, rfl⟩
theorem d2_75 : D prog_1_method_1_code 75 (.putfield 43) 3 78 := ⟨by decide +kernel, rfl⟩
theorem d2_78 : D prog_1_method_1_code 78 (.return_) 1 79 := ⟨by decide +kernel, rfl⟩
theorem d4_0 : D jdk_29_method_69_code 0 (.iload_n 0) 1 1 := ⟨by decide +kernel, rfl⟩
theorem d4_1 : D jdk_29_method_69_code 1 (.iload_n 1) 1 2 := ⟨by decide +kernel, rfl⟩
theorem d4_2 : D jdk_29_method_69_code 2 (.if_icmp .gt 7) 3 5 := ⟨by decide +kernel, rfl⟩
theorem d4_5 : D jdk_29_method_69_code 5 (.iload_n 0) 1 6 := ⟨by decide +kernel, rfl⟩
theorem d4_6 : D jdk_29_method_69_code 6 (.goto 4) 3 9 := ⟨by decide +kernel, rfl⟩
theorem d4_9 : D jdk_29_method_69_code 9 (.iload_n 1) 1 10 := ⟨by decide +kernel, rfl⟩
theorem d4_10 : D jdk_29_method_69_code 10 (.ireturn) 1 11 := ⟨by decide +kernel, rfl⟩
theorem d5_0 : D jdk_65_method_90_code 0 (.aload_n 0) 1 1 := ⟨by decide +kernel, rfl⟩
theorem d5_1 : D jdk_65_method_90_code 1 (.arraylength) 1 2 := ⟨by decide +kernel, rfl⟩
theorem d5_2 : D jdk_65_method_90_code 2 (.iload_n 1) 1 3 := ⟨by decide +kernel, rfl⟩
theorem d5_3 : D jdk_65_method_90_code 3 (.iload_n 2) 1 4 := ⟨by decide +kernel, rfl⟩
theorem d5_4 : D jdk_65_method_90_code 4 (.invokestatic 13) 3 7 := ⟨by decide +kernel, rfl⟩
theorem d5_7 : D jdk_65_method_90_code 7 (.aload_n 3) 1 8 := ⟨by decide +kernel, rfl⟩
theorem d5_8 : D jdk_65_method_90_code 8 (.arraylength) 1 9 := ⟨by decide +kernel, rfl⟩
theorem d5_9 : D jdk_65_method_90_code 9 (.iload 4) 2 11 := ⟨by decide +kernel, rfl⟩
theorem d5_11 : D jdk_65_method_90_code 11 (.iload 5) 2 13 := ⟨by decide +kernel, rfl⟩
theorem d5_13 : D jdk_65_method_90_code 13 (.invokestatic 13) 3 16 := ⟨by decide +kernel, rfl⟩
theorem d5_16 : D jdk_65_method_90_code 16 (.iload_n 2) 1 17 := ⟨by decide +kernel, rfl⟩
theorem d5_17 : D jdk_65_method_90_code 17 (.iload_n 1) 1 18 := ⟨by decide +kernel, rfl⟩
theorem d5_18 : D jdk_65_method_90_code 18 (.isub) 1 19 := ⟨by decide +kernel, rfl⟩
theorem d5_19 : D jdk_65_method_90_code 19 (.istore 6) 2 21 := ⟨by decide +kernel, rfl⟩
theorem d5_21 : D jdk_65_method_90_code 21 (.iload 5) 2 23 := ⟨by decide +kernel, rfl⟩
theorem d5_23 : D jdk_65_method_90_code 23 (.iload 4) 2 25 := ⟨by decide +kernel, rfl⟩
theorem d5_25 : D jdk_65_method_90_code 25 (.isub) 1 26 := ⟨by decide +kernel, rfl⟩
theorem d5_26 : D jdk_65_method_90_code 26 (.istore 7) 2 28 := ⟨by decide +kernel, rfl⟩
theorem d5_28 : D jdk_65_method_90_code 28 (.iload 6) 2 30 := ⟨by decide +kernel, rfl⟩
theorem d5_30 : D jdk_65_method_90_code 30 (.iload 7) 2 32 := ⟨by decide +kernel, rfl⟩
theorem d5_32 : D jdk_65_method_90_code 32 (.if_icmp .eq 5) 3 35 := ⟨by decide +kernel, rfl⟩
theorem d5_37 : D jdk_65_method_90_code 37 (.aload_n 0) 1 38 := ⟨by decide +kernel, rfl⟩
theorem d5_38 : D jdk_65_method_90_code 38 (.iload_n 1) 1 39 := ⟨by decide +kernel, rfl⟩
theorem d5_39 : D jdk_65_method_90_code 39 (.aload_n 3) 1 40 := ⟨by decide +kernel, rfl⟩
theorem d5_40 : D jdk_65_method_90_code 40 (.iload 4) 2 42 := ⟨by decide +kernel, rfl⟩
theorem d5_42 : D jdk_65_method_90_code 42 (.iload 6) 2 44 := ⟨by decide +kernel, rfl⟩
theorem d5_44 : D jdk_65_method_90_code 44 (.invokestatic 275) 3 47 := ⟨by decide +kernel, rfl⟩
theorem d5_47 : D jdk_65_method_90_code 47 (.ifCond .ge 7) 3 50 := ⟨by decide +kernel, rfl⟩
theorem d5_54 : D jdk_65_method_90_code 54 (.iconst 0) 1 55 := ⟨by decide +kernel, rfl⟩
theorem d5_55 : D jdk_65_method_90_code 55 (.ireturn) 1 56 := ⟨by decide +kernel, rfl⟩
theorem d6_0 : D jdk_65_method_30_code 0 (.iload_n 1) 1 1 := ⟨by decide +kernel, rfl⟩
theorem d6_1 : D jdk_65_method_30_code 1 (.iload_n 2) 1 2 := ⟨by decide +kernel, rfl⟩
theorem d6_2 : D jdk_65_method_30_code 2 (.if_icmp .le 44) 3 5 := ⟨by decide +kernel, rfl⟩
theorem d6_46 : D jdk_65_method_30_code 46 (.iload_n 1) 1 47 := ⟨by decide +kernel, rfl⟩
theorem d6_47 : D jdk_65_method_30_code 47 (.ifCond .ge 12) 3 50 := ⟨by decide +kernel, rfl⟩
theorem d6_59 : D jdk_65_method_30_code 59 (.iload_n 2) 1 60 := ⟨by decide +kernel, rfl⟩
theorem d6_60 : D jdk_65_method_30_code 60 (.iload_n 0) 1 61 := ⟨by decide +kernel, rfl⟩
theorem d6_61 : D jdk_65_method_30_code 61 (.if_icmp .le 12) 3 64 := ⟨by decide +kernel, rfl⟩
theorem d6_73 : D jdk_65_method_30_code 73 (.return_) 1 74 := ⟨by decide +kernel, rfl⟩
theorem d7_0 : D jdk_48_method_14_code 0 (.iconst 0) 1 1 := ⟨by decide +kernel, rfl⟩
theorem d7_1 : D jdk_48_method_14_code 1 (.istore 5) 2 3 := ⟨by decide +kernel, rfl⟩
theorem d7_3 : D jdk_48_method_14_code 3 (.iload 4) 2 5 := ⟨by decide +kernel, rfl⟩
theorem d7_5 : D jdk_48_method_14_code 5 (.bipush 7) 2 7 := ⟨by decide +kernel, rfl⟩
theorem d7_7 : D jdk_48_method_14_code 7 (.if_icmp .le 63) 3 10 := ⟨by decide +kernel, rfl⟩
theorem d7_70 : D jdk_48_method_14_code 70 (.iload 5) 2 72 := ⟨by decide +kernel, rfl⟩
theorem d7_72 : D jdk_48_method_14_code 72 (.iload 4) 2 74 := ⟨by decide +kernel, rfl⟩
theorem d7_74 : D jdk_48_method_14_code 74 (.if_icmp .ge 27) 3 77 := ⟨by decide +kernel, rfl⟩
theorem d7_77 : D jdk_48_method_14_code 77 (.aload_n 0) 1 78 := ⟨by decide +kernel, rfl⟩
theorem d7_78 : D jdk_48_method_14_code 78 (.iload_n 1) 1 79 := ⟨by decide +kernel, rfl⟩
theorem d7_79 : D jdk_48_method_14_code 79 (.iload 5) 2 81 := ⟨by decide +kernel, rfl⟩
theorem d7_81 : D jdk_48_method_14_code 81 (.iadd) 1 82 := ⟨by decide +kernel, rfl⟩
theorem d7_82 : D jdk_48_method_14_code 82 (.baload) 1 83 := ⟨by decide +kernel, rfl⟩
theorem d7_83 : D jdk_48_method_14_code 83 (.aload_n 2) 1 84 := ⟨by decide +kernel, rfl⟩
theorem d7_84 : D jdk_48_method_14_code 84 (.iload_n 3) 1 85 := ⟨by decide +kernel, rfl⟩
theorem d7_85 : D jdk_48_method_14_code 85 (.iload 5) 2 87 := ⟨by decide +kernel, rfl⟩
theorem d7_87 : D jdk_48_method_14_code 87 (.iadd) 1 88 := ⟨by decide +kernel, rfl⟩
theorem d7_88 : D jdk_48_method_14_code 88 (.baload) 1 89 := ⟨by decide +kernel, rfl⟩
theorem d7_89 : D jdk_48_method_14_code 89 (.if_icmp .eq 6) 3 92 := ⟨by decide +kernel, rfl⟩
theorem d7_92 : D jdk_48_method_14_code 92 (.iload 5) 2 94 := ⟨by decide +kernel, rfl⟩
theorem d7_94 : D jdk_48_method_14_code 94 (.ireturn) 1 95 := ⟨by decide +kernel, rfl⟩
theorem d8_0 : D prog_1_method_2_code 0 (.aload_n 0) 1 1 := ⟨by decide +kernel, rfl⟩
theorem d8_1 : D prog_1_method_2_code 1 (.getfield 43) 3 4 := ⟨by decide +kernel, rfl⟩
theorem d8_4 : D prog_1_method_2_code 4 (.aload_n 0) 1 5 := ⟨by decide +kernel, rfl⟩
theorem d8_5 : D prog_1_method_2_code 5 (.getfield 24) 3 8 := ⟨by decide +kernel, rfl⟩
theorem d8_8 : D prog_1_method_2_code 8 (.if_icmp .ne 5) 3 11 := ⟨by decide +kernel, rfl⟩
theorem d8_13 : D prog_1_method_2_code 13 (.aload_n 0) 1 14 := ⟨by decide +kernel, rfl⟩
theorem d8_14 : D prog_1_method_2_code 14 (.dup) 1 15 := ⟨by decide +kernel, rfl⟩
theorem d8_15 : D prog_1_method_2_code 15 (.getfield 46) 3 18 := ⟨by decide +kernel, rfl⟩
theorem d8_18 : D prog_1_method_2_code 18 (.iconst 1) 1 19 := ⟨by decide +kernel, rfl⟩
theorem d8_19 : D prog_1_method_2_code 19 (.iadd) 1 20 := ⟨by decide +kernel, rfl⟩
theorem d8_20 : D prog_1_method_2_code 20 (.putfield 46) 3 23 := ⟨by decide +kernel, rfl⟩
theorem d8_23 : D prog_1_method_2_code 23 (.aload_n 0) 1 24 := ⟨by decide +kernel, rfl⟩
theorem d8_24 : D prog_1_method_2_code 24 (.iconst 0) 1 25 := ⟨by decide +kernel, rfl⟩
theorem d8_25 : D prog_1_method_2_code 25 (.putfield 49) 3 28 := ⟨by decide +kernel, rfl⟩
theorem d8_28 : D prog_1_method_2_code 28 (.aload_n 0) 1 29 := ⟨by decide +kernel, rfl⟩
theorem d8_29 : D prog_1_method_2_code 29 (.getfield 49) 3 32 := ⟨by decide +kernel, rfl⟩
theorem d8_32 : D prog_1_method_2_code 32 (.aload_n 0) 1 33 := ⟨by decide +kernel, rfl⟩
theorem d8_33 : D prog_1_method_2_code 33 (.getfield 9) 3 36 := ⟨by decide +kernel, rfl⟩
theorem d8_36 : D prog_1_method_2_code 36 (.arraylength) 1 37 := ⟨by decide +kernel, rfl⟩
theorem d8_37 : D prog_1_method_2_code 37 (.if_icmp .ne 54) 3 40 := ⟨by decide +kernel, rfl⟩
theorem d8_91 : D prog_1_method_2_code 91 (.aload_n 0) 1 92 := ⟨by decide +kernel, rfl⟩
theorem d8_92 : D prog_1_method_2_code 92 (.getfield 43) 3 95 := ⟨by decide +kernel, rfl⟩
theorem d8_95 : D prog_1_method_2_code 95 (.aload_n 0) 1 96 := ⟨by decide +kernel, rfl⟩
theorem d8_96 : D prog_1_method_2_code 96 (.getfield 24) 3 99 := ⟨by decide +kernel, rfl⟩
theorem d8_99 : D prog_1_method_2_code 99 (.if_icmp .ge 24) 3 102 := ⟨by decide +kernel, rfl⟩
theorem d8_102 : D prog_1_method_2_code 102 (.aload_n 0) 1 103 := ⟨by decide +kernel, rfl⟩
theorem d8_103 : D prog_1_method_2_code 103 (.getfield 20) 3 106 := ⟨by decide +kernel, rfl⟩
theorem d8_106 : D prog_1_method_2_code 106 (.aload_n 0) 1 107 := ⟨by decide +kernel, rfl⟩
theorem d8_107 : D prog_1_method_2_code 107 (.getfield 43) 3 110 := ⟨by decide +kernel, rfl⟩
theorem d8_110 : D prog_1_method_2_code 110 (.baload) 1 111 := ⟨by decide +kernel, rfl⟩
theorem d8_111 : D prog_1_method_2_code 111 (.bipush 34) 2 113 := ⟨by decide +kernel, rfl⟩
theorem d8_113 : D prog_1_method_2_code 113 (.if_icmp .ne 10) 3 116 := ⟨by decide +kernel, rfl⟩
theorem d8_116 : D prog_1_method_2_code 116 (.aload_n 0) 1 117 := ⟨by decide +kernel, rfl⟩
theorem d8_117 : D prog_1_method_2_code 117 (.invokevirtual 59) 3 120 := ⟨by decide +kernel, rfl⟩
theorem d8_120 : D prog_1_method_2_code 120 (.goto 7) 3 123 := ⟨by decide +kernel, rfl⟩
theorem d8_123 : D prog_1_method_2_code 123 (.aload_n 0) 1 124 := ⟨by decide +kernel, rfl⟩
theorem d8_124 : D prog_1_method_2_code 124 (.invokevirtual 62) 3 127 := ⟨by decide +kernel, rfl⟩
theorem d8_127 : D prog_1_method_2_code 127 (.aload_n 0) 1 128 := ⟨by decide +kernel, rfl⟩
theorem d8_128 : D prog_1_method_2_code 128 (.dup) 1 129 := ⟨by decide +kernel, rfl⟩
theorem d8_129 : D prog_1_method_2_code 129 (.getfield 49) 3 132 := ⟨by decide +kernel, rfl⟩
theorem d8_132 : D prog_1_method_2_code 132 (.iconst 1) 1 133 := ⟨by decide +kernel, rfl⟩
theorem d8_133 : D prog_1_method_2_code 133 (.iadd) 1 134 := ⟨by decide +kernel, rfl⟩
theorem d8_134 : D prog_1_method_2_code 134 (.putfield 49) 3 137 := ⟨by decide +kernel, rfl⟩
theorem d8_137 : D prog_1_method_2_code 137 (.aload_n 0) 1 138 := ⟨by decide +kernel, rfl⟩
theorem d8_138 : D prog_1_method_2_code 138 (.invokevirtual 65) 3 141 := ⟨by decide +kernel, rfl⟩
theorem d8_141 : D prog_1_method_2_code 141 (.istore_n 1) 1 142 := ⟨by decide +kernel, rfl⟩
theorem d8_142 : D prog_1_method_2_code 142 (.aload_n 0) 1 143 := ⟨by decide +kernel, rfl⟩
theorem d8_143 : D prog_1_method_2_code 143 (.getfield 43) 3 146 := ⟨by decide +kernel, rfl⟩
theorem d8_146 : D prog_1_method_2_code 146 (.aload_n 0) 1 147 := ⟨by decide +kernel, rfl⟩
theorem d8_147 : D prog_1_method_2_code 147 (.getfield 24) 3 150 := ⟨by decide +kernel, rfl⟩
theorem d8_150 : D prog_1_method_2_code 150 (.if_icmp .ge 30) 3 153 := ⟨by decide +kernel, rfl⟩
theorem d8_153 : D prog_1_method_2_code 153 (.aload_n 0) 1 154 := ⟨by decide +kernel, rfl⟩
theorem d8_154 : D prog_1_method_2_code 154 (.getfield 20) 3 157 := ⟨by decide +kernel, rfl⟩
theorem d8_157 : D prog_1_method_2_code 157 (.aload_n 0) 1 158 := ⟨by decide +kernel, rfl⟩
theorem d8_158 : D prog_1_method_2_code 158 (.getfield 43) 3 161 := ⟨by decide +kernel, rfl⟩
theorem d8_161 : D prog_1_method_2_code 161 (.baload) 1 162 := ⟨by decide +kernel, rfl⟩
theorem d8_162 : D prog_1_method_2_code 162 (.bipush 44) 2 164 := ⟨by decide +kernel, rfl⟩
theorem d8_164 : D prog_1_method_2_code 164 (.if_icmp .ne 16) 3 167 := ⟨by decide +kernel, rfl⟩
theorem d8_167 : D prog_1_method_2_code 167 (.aload_n 0) 1 168 := ⟨by decide +kernel, rfl⟩
theorem d8_168 : D prog_1_method_2_code 168 (.dup) 1 169 := ⟨by decide +kernel, rfl⟩
theorem d8_169 : D prog_1_method_2_code 169 (.getfield 43) 3 172 := ⟨by decide +kernel, rfl⟩
theorem d8_172 : D prog_1_method_2_code 172 (.iconst 1) 1 173 := ⟨by decide +kernel, rfl⟩
theorem d8_173 : D prog_1_method_2_code 173 (.iadd) 1 174 := ⟨by decide +kernel, rfl⟩
theorem d8_174 : D prog_1_method_2_code 174 (.putfield 43) 3 177 := ⟨by decide +kernel, rfl⟩
theorem d8_177 : D prog_1_method_2_code 177 (.goto 38) 3 180 := ⟨by decide +kernel, rfl⟩
theorem d8_180 : D prog_1_method_2_code 180 (.iload_n 1) 1 181 := ⟨by decide +kernel, rfl⟩
theorem d8_181 : D prog_1_method_2_code 181 (.ifCond .gt 14) 3 184 := ⟨by decide +kernel, rfl⟩
theorem d8_184 : D prog_1_method_2_code 184 (.aload_n 0) 1 185 := ⟨by decide +kernel, rfl⟩
theorem d8_185 : D prog_1_method_2_code 185 (.getfield 43) 3 188 := ⟨by decide +kernel, rfl⟩
theorem d8_188 : D prog_1_method_2_code 188 (.aload_n 0) 1 189 := ⟨by decide +kernel, rfl⟩
theorem d8_189 : D prog_1_method_2_code 189 (.getfield 24) 3 192 := ⟨by decide +kernel, rfl⟩
theorem d8_192 : D prog_1_method_2_code 192 (.if_icmp .ne 16) 3 195 := ⟨by decide +kernel, rfl⟩
theorem d8_195 : D prog_1_method_2_code 195 (.aload_n 0) 1 196 := ⟨by decide +kernel, rfl⟩
theorem d8_196 : D prog_1_method_2_code 196 (.dup) 1 197 := ⟨by decide +kernel, rfl⟩
theorem d8_197 : D prog_1_method_2_code 197 (.getfield 43) 3 200 := ⟨by decide +kernel, rfl⟩
theorem d8_200 : D prog_1_method_2_code 200 (.iload_n 1) 1 201 := ⟨by decide +kernel, rfl⟩
theorem d8_201 : D prog_1_method_2_code 201 (.iadd) 1 202 := ⟨by decide +kernel, rfl⟩
theorem d8_202 : D prog_1_method_2_code 202 (.putfield 43) 3 205 := ⟨by decide +kernel, rfl⟩
theorem d8_205 : D prog_1_method_2_code 205 (.goto 13) 3 208 := ⟨by decide +kernel, rfl⟩
theorem d8_215 : D prog_1_method_2_code 215 (.goto (-187)) 3 218 := ⟨by decide +kernel, rfl⟩
theorem d8_218 : D prog_1_method_2_code 218 (.aload_n 0) 1 219 := ⟨by decide +kernel, rfl⟩
theorem d8_219 : D prog_1_method_2_code 219 (.getfield 75) 3 222 := ⟨by decide +kernel, rfl⟩
theorem d8_222 : D prog_1_method_2_code 222 (.ifCond .ge 23) 3 225 := ⟨by decide +kernel, rfl⟩
theorem d8_245 : D prog_1_method_2_code 245 (.iconst 1) 1 246 := ⟨by decide +kernel, rfl⟩
theorem d8_246 : D prog_1_method_2_code 246 (.ireturn) 1 247 := ⟨by decide +kernel, rfl⟩
theorem d9_0 : D prog_1_method_11_code 0 (.aload_n 0) 1 1 := ⟨by decide +kernel, rfl⟩
theorem d9_1 : D prog_1_method_11_code 1 (.getfield 9) 3 4 := ⟨by decide +kernel, rfl⟩
theorem d9_4 : D prog_1_method_11_code 4 (.aload_n 0) 1 5 := ⟨by decide +kernel, rfl⟩
theorem d9_5 : D prog_1_method_11_code 5 (.getfield 49) 3 8 := ⟨by decide +kernel, rfl⟩
theorem d9_8 : D prog_1_method_11_code 8 (.aload_n 0) 1 9 := ⟨by decide +kernel, rfl⟩
theorem d9_9 : D prog_1_method_11_code 9 (.getfield 43) 3 12 := ⟨by decide +kernel, rfl⟩
theorem d9_12 : D prog_1_method_11_code 12 (.iastore) 1 13 := ⟨by decide +kernel, rfl⟩
theorem d9_13 : D prog_1_method_11_code 13 (.aload_n 0) 1 14 := ⟨by decide +kernel, rfl⟩
theorem d9_14 : D prog_1_method_11_code 14 (.getfield 16) 3 17 := ⟨by decide +kernel, rfl⟩
theorem d9_17 : D prog_1_method_11_code 17 (.aload_n 0) 1 18 := ⟨by decide +kernel, rfl⟩
theorem d9_18 : D prog_1_method_11_code 18 (.getfield 49) 3 21 := ⟨by decide +kernel, rfl⟩
theorem d9_21 : D prog_1_method_11_code 21 (.iconst 0) 1 22 := ⟨by decide +kernel, rfl⟩
theorem d9_22 : D prog_1_method_11_code 22 (.bastore) 1 23 := ⟨by decide +kernel, rfl⟩
theorem d9_23 : D prog_1_method_11_code 23 (.aload_n 0) 1 24 := ⟨by decide +kernel, rfl⟩
theorem d9_24 : D prog_1_method_11_code 24 (.aload_n 0) 1 25 := ⟨by decide +kernel, rfl⟩
theorem d9_25 : D prog_1_method_11_code 25 (.getfield 43) 3 28 := ⟨by decide +kernel, rfl⟩
theorem d9_28 : D prog_1_method_11_code 28 (.invokevirtual 141) 3 31 := ⟨by decide +kernel, rfl⟩
theorem d9_31 : D prog_1_method_11_code 31 (.istore_n 1) 1 32 := ⟨by decide +kernel, rfl⟩
theorem d9_32 : D prog_1_method_11_code 32 (.iload_n 1) 1 33 := ⟨by decide +kernel, rfl⟩
theorem d9_33 : D prog_1_method_11_code 33 (.aload_n 0) 1 34 := ⟨by decide +kernel, rfl⟩
theorem d9_34 : D prog_1_method_11_code 34 (.getfield 24) 3 37 := ⟨by decide +kernel, rfl⟩
theorem d9_37 : D prog_1_method_11_code 37 (.if_icmp .ge 48) 3 40 := ⟨by decide +kernel, rfl⟩
theorem d9_40 : D prog_1_method_11_code 40 (.aload_n 0) 1 41 := ⟨by decide +kernel, rfl⟩
theorem d9_41 : D prog_1_method_11_code 41 (.getfield 20) 3 44 := ⟨by decide +kernel, rfl⟩
theorem d9_44 : D prog_1_method_11_code 44 (.iload_n 1) 1 45 := ⟨by decide +kernel, rfl⟩
theorem d9_45 : D prog_1_method_11_code 45 (.baload) 1 46 := ⟨by decide +kernel, rfl⟩
theorem d9_46 : D prog_1_method_11_code 46 (.bipush 13) 2 48 := ⟨by decide +kernel, rfl⟩
theorem d9_48 : D prog_1_method_11_code 48 (.if_icmp .ne 37) 3 51 := ⟨by decide +kernel, rfl⟩
theorem d9_51 : D prog_1_method_11_code 51 (.iload_n 1) 1 52 := ⟨by decide +kernel, rfl⟩
theorem d9_52 : D prog_1_method_11_code 52 (.iconst 1) 1 53 := ⟨by decide +kernel, rfl⟩
theorem d9_53 : D prog_1_method_11_code 53 (.iadd) 1 54 := ⟨by decide +kernel, rfl⟩
theorem d9_54 : D prog_1_method_11_code 54 (.aload_n 0) 1 55 := ⟨by decide +kernel, rfl⟩
theorem d9_55 : D prog_1_method_11_code 55 (.getfield 24) 3 58 := ⟨by decide +kernel, rfl⟩
theorem d9_58 : D prog_1_method_11_code 58 (.if_icmp .eq 16) 3 61 := ⟨by decide +kernel, rfl⟩
theorem d9_61 : D prog_1_method_11_code 61 (.aload_n 0) 1 62 := ⟨by decide +kernel, rfl⟩
theorem d9_62 : D prog_1_method_11_code 62 (.getfield 20) 3 65 := ⟨by decide +kernel, rfl⟩
theorem d9_65 : D prog_1_method_11_code 65 (.iload_n 1) 1 66 := ⟨by decide +kernel, rfl⟩
theorem d9_66 : D prog_1_method_11_code 66 (.iconst 1) 1 67 := ⟨by decide +kernel, rfl⟩
theorem d9_67 : D prog_1_method_11_code 67 (.iadd) 1 68 := ⟨by decide +kernel, rfl⟩
theorem d9_68 : D prog_1_method_11_code 68 (.baload) 1 69 := ⟨by decide +kernel, rfl⟩
theorem d9_69 : D prog_1_method_11_code 69 (.bipush 10) 2 71 := ⟨by decide +kernel, rfl⟩
theorem d9_71 : D prog_1_method_11_code 71 (.if_icmp .eq 14) 3 74 := ⟨by decide +kernel, rfl⟩
theorem d9_74 : D prog_1_method_11_code 74 (.aload_n 0) 1 75 := ⟨by decide +kernel, rfl⟩
theorem d9_75 : D prog_1_method_11_code 75 (.iload_n 1) 1 76 := ⟨by decide +kernel, rfl⟩
theorem d9_76 : D prog_1_method_11_code 76 (.iconst 1) 1 77 := ⟨by decide +kernel, rfl⟩
theorem d9_77 : D prog_1_method_11_code 77 (.iadd) 1 78 := ⟨by decide +kernel, rfl⟩
theorem d9_78 : D prog_1_method_11_code 78 (.invokevirtual 141) 3 81 := ⟨by decide +kernel, rfl⟩
theorem d9_81 : D prog_1_method_11_code 81 (.istore_n 1) 1 82 := ⟨by decide +kernel, rfl⟩
theorem d9_82 : D prog_1_method_11_code 82 (.goto (-50)) 3 85 := ⟨by decide +kernel, rfl⟩
theorem d9_85 : D prog_1_method_11_code 85 (.iload_n 1) 1 86 := ⟨by decide +kernel, rfl⟩
theorem d9_86 : D prog_1_method_11_code 86 (.aload_n 0) 1 87 := ⟨by decide +kernel, rfl⟩
theorem d9_87 : D prog_1_method_11_code 87 (.getfield 24) 3 90 := ⟨by decide +kernel, rfl⟩
theorem d9_90 : D prog_1_method_11_code 90 (.if_icmp .ge 21) 3 93 := ⟨by decide +kernel, rfl⟩
theorem d9_93 : D prog_1_method_11_code 93 (.aload_n 0) 1 94 := ⟨by decide +kernel, rfl⟩
theorem d9_94 : D prog_1_method_11_code 94 (.getfield 20) 3 97 := ⟨by decide +kernel, rfl⟩
theorem d9_97 : D prog_1_method_11_code 97 (.iload_n 1) 1 98 := ⟨by decide +kernel, rfl⟩
theorem d9_98 : D prog_1_method_11_code 98 (.baload) 1 99 := ⟨by decide +kernel, rfl⟩
theorem d9_99 : D prog_1_method_11_code 99 (.bipush 34) 2 101 := ⟨by decide +kernel, rfl⟩
theorem d9_101 : D prog_1_method_11_code 101 (.if_icmp .ne 10) 3 104 := ⟨by decide +kernel, rfl⟩
theorem d9_111 : D prog_1_method_11_code 111 (.aload_n 0) 1 112 := ⟨by decide +kernel, rfl⟩
theorem d9_112 : D prog_1_method_11_code 112 (.getfield 13) 3 115 := ⟨by decide +kernel, rfl⟩
theorem d9_115 : D prog_1_method_11_code 115 (.aload_n 0) 1 116 := ⟨by decide +kernel, rfl⟩
theorem d9_116 : D prog_1_method_11_code 116 (.getfield 49) 3 119 := ⟨by decide +kernel, rfl⟩
theorem d9_119 : D prog_1_method_11_code 119 (.iload_n 1) 1 120 := ⟨by decide +kernel, rfl⟩
theorem d9_120 : D prog_1_method_11_code 120 (.iastore) 1 121 := ⟨by decide +kernel, rfl⟩
theorem d9_121 : D prog_1_method_11_code 121 (.aload_n 0) 1 122 := ⟨by decide +kernel, rfl⟩
theorem d9_122 : D prog_1_method_11_code 122 (.iload_n 1) 1 123 := ⟨by decide +kernel, rfl⟩
theorem d9_123 : D prog_1_method_11_code 123 (.putfield 43) 3 126 := ⟨by decide +kernel, rfl⟩
theorem d9_126 : D prog_1_method_11_code 126 (.return_) 1 127 := ⟨by decide +kernel, rfl⟩
theorem d10_0 : D prog_1_method_12_code 0 (.aload_n 0) 1 1 := ⟨by decide +kernel, rfl⟩
theorem d10_1 : D prog_1_method_12_code 1 (.getfield 20) 3 4 := ⟨by decide +kernel, rfl⟩
theorem d10_4 : D prog_1_method_12_code 4 (.astore_n 2) 1 5 := ⟨by decide +kernel, rfl⟩
theorem d10_5 : D prog_1_method_12_code 5 (.aload_n 0) 1 6 := ⟨by decide +kernel, rfl⟩
theorem d10_6 : D prog_1_method_12_code 6 (.getfield 24) 3 9 := ⟨by decide +kernel, rfl⟩
theorem d10_9 : D prog_1_method_12_code 9 (.istore_n 3) 1 10 := ⟨by decide +kernel, rfl⟩
theorem d10_10 : D prog_1_method_12_code 10 (.iconst 0) 1 11 := ⟨by decide +kernel, rfl⟩
theorem d10_11 : D prog_1_method_12_code 11 (.istore 4) 2 13 := ⟨by decide +kernel, rfl⟩
theorem d10_13 : D prog_1_method_12_code 13 (.iload_n 1) 1 14 := ⟨by decide +kernel, rfl⟩
theorem d10_14 : D prog_1_method_12_code 14 (.istore 5) 2 16 := ⟨by decide +kernel, rfl⟩
theorem d10_16 : D prog_1_method_12_code 16 (.iload 5) 2 18 := ⟨by decide +kernel, rfl⟩
theorem d10_18 : D prog_1_method_12_code 18 (.iload_n 3) 1 19 := ⟨by decide +kernel, rfl⟩
theorem d10_19 : D prog_1_method_12_code 19 (.if_icmp .ge 53) 3 22 := ⟨by decide +kernel, rfl⟩
theorem d10_22 : D prog_1_method_12_code 22 (.aload_n 2) 1 23 := ⟨by decide +kernel, rfl⟩
theorem d10_23 : D prog_1_method_12_code 23 (.iload 5) 2 25 := ⟨by decide +kernel, rfl⟩
theorem d10_25 : D prog_1_method_12_code 25 (.baload) 1 26 := ⟨by decide +kernel, rfl⟩
theorem d10_26 : D prog_1_method_12_code 26 (.istore 6) 2 28 := ⟨by decide +kernel, rfl⟩
theorem d10_28 : D prog_1_method_12_code 28 (.iload 6) 2 30 := ⟨by decide +kernel, rfl⟩
theorem d10_30 : D prog_1_method_12_code 30 (.bipush 44) 2 32 := ⟨by decide +kernel, rfl⟩
theorem d10_32 : D prog_1_method_12_code 32 (.if_icmp .eq 40) 3 35 := ⟨by decide +kernel, rfl⟩
theorem d10_35 : D prog_1_method_12_code 35 (.iload 6) 2 37 := ⟨by decide +kernel, rfl⟩
theorem d10_37 : D prog_1_method_12_code 37 (.bipush 10) 2 39 := ⟨by decide +kernel, rfl⟩
theorem d10_39 : D prog_1_method_12_code 39 (.if_icmp .eq 33) 3 42 := ⟨by decide +kernel, rfl⟩
theorem d10_42 : D prog_1_method_12_code 42 (.iload 6) 2 44 := ⟨by decide +kernel, rfl⟩
theorem d10_44 : D prog_1_method_12_code 44 (.bipush 13) 2 46 := ⟨by decide +kernel, rfl⟩
theorem d10_46 : D prog_1_method_12_code 46 (.if_icmp .eq 26) 3 49 := ⟨by decide +kernel, rfl⟩
theorem d10_49 : D prog_1_method_12_code 49 (.iload 6) 2 51 := ⟨by decide +kernel, rfl⟩
theorem d10_51 : D prog_1_method_12_code 51 (.bipush 34) 2 53 := ⟨by decide +kernel, rfl⟩
theorem d10_53 : D prog_1_method_12_code 53 (.if_icmp .ne 6) 3 56 := ⟨by decide +kernel, rfl⟩
theorem d10_56 : D prog_1_method_12_code 56 (.goto 16) 3 59 := ⟨by decide +kernel, rfl⟩
theorem d10_59 : D prog_1_method_12_code 59 (.iload 4) 2 61 := ⟨by decide +kernel, rfl⟩
theorem d10_61 : D prog_1_method_12_code 61 (.iload 6) 2 63 := ⟨by decide +kernel, rfl⟩
theorem d10_63 : D prog_1_method_12_code 63 (.ior) 1 64 := ⟨by decide +kernel, rfl⟩
theorem d10_64 : D prog_1_method_12_code 64 (.istore 4) 2 66 := ⟨by decide +kernel, rfl⟩
theorem d10_66 : D prog_1_method_12_code 66 (.iinc 5 1) 3 69 := ⟨by decide +kernel, rfl⟩
theorem d10_69 : D prog_1_method_12_code 69 (.goto (-53)) 3 72 := ⟨by decide +kernel, rfl⟩
theorem d10_72 : D prog_1_method_12_code 72 (.aload_n 0) 1 73 := ⟨by decide +kernel, rfl⟩
theorem d10_73 : D prog_1_method_12_code 73 (.dup) 1 74 := ⟨by decide +kernel, rfl⟩
theorem d10_74 : D prog_1_method_12_code 74 (.getfield 75) 3 77 := ⟨by decide +kernel, rfl⟩
theorem d10_77 : D prog_1_method_12_code 77 (.iload 4) 2 79 := ⟨by decide +kernel, rfl⟩
theorem d10_79 : D prog_1_method_12_code 79 (.ior) 1 80 := ⟨by decide +kernel, rfl⟩
theorem d10_80 : D prog_1_method_12_code 80 (.putfield 75) 3 83 := ⟨by decide +kernel, rfl⟩
theorem d10_83 : D prog_1_method_12_code 83 (.iload 5) 2 85 := ⟨by decide +kernel, rfl⟩
theorem d10_85 : D prog_1_method_12_code 85 (.ireturn) 1 86 := ⟨by decide +kernel, rfl⟩
theorem d11_0 : D prog_1_method_14_code 0 (.aload_n 0) 1 1 := ⟨by decide +kernel, rfl⟩
theorem d11_1 : D prog_1_method_14_code 1 (.getfield 43) 3 4 := ⟨by decide +kernel, rfl⟩
theorem d11_4 : D prog_1_method_14_code 4 (.iconst 1) 1 5 := ⟨by decide +kernel, rfl⟩
theorem d11_5 : D prog_1_method_14_code 5 (.iadd) 1 6 := ⟨by decide +kernel, rfl⟩
theorem d11_6 : D prog_1_method_14_code 6 (.aload_n 0) 1 7 := ⟨by decide +kernel, rfl⟩
theorem d11_7 : D prog_1_method_14_code 7 (.getfield 24) 3 10 := ⟨by decide +kernel, rfl⟩
theorem d11_10 : D prog_1_method_14_code 10 (.if_icmp .ge 38) 3 13 := ⟨by decide +kernel, rfl⟩
theorem d11_13 : D prog_1_method_14_code 13 (.aload_n 0) 1 14 := ⟨by decide +kernel, rfl⟩
theorem d11_14 : D prog_1_method_14_code 14 (.getfield 20) 3 17 := ⟨by decide +kernel, rfl⟩
theorem d11_17 : D prog_1_method_14_code 17 (.aload_n 0) 1 18 := ⟨by decide +kernel, rfl⟩
theorem d11_18 : D prog_1_method_14_code 18 (.getfield 43) 3 21 := ⟨by decide +kernel, rfl⟩
theorem d11_21 : D prog_1_method_14_code 21 (.baload) 1 22 := ⟨by decide +kernel, rfl⟩
theorem d11_22 : D prog_1_method_14_code 22 (.bipush 13) 2 24 := ⟨by decide +kernel, rfl⟩
theorem d11_24 : D prog_1_method_14_code 24 (.if_icmp .ne 24) 3 27 := ⟨by decide +kernel, rfl⟩
theorem d11_27 : D prog_1_method_14_code 27 (.aload_n 0) 1 28 := ⟨by decide +kernel, rfl⟩
theorem d11_28 : D prog_1_method_14_code 28 (.getfield 20) 3 31 := ⟨by decide +kernel, rfl⟩
theorem d11_31 : D prog_1_method_14_code 31 (.aload_n 0) 1 32 := ⟨by decide +kernel, rfl⟩
theorem d11_32 : D prog_1_method_14_code 32 (.getfield 43) 3 35 := ⟨by decide +kernel, rfl⟩
theorem d11_35 : D prog_1_method_14_code 35 (.iconst 1) 1 36 := ⟨by decide +kernel, rfl⟩
theorem d11_36 : D prog_1_method_14_code 36 (.iadd) 1 37 := ⟨by decide +kernel, rfl⟩
theorem d11_37 : D prog_1_method_14_code 37 (.baload) 1 38 := ⟨by decide +kernel, rfl⟩
theorem d11_38 : D prog_1_method_14_code 38 (.bipush 10) 2 40 := ⟨by decide +kernel, rfl⟩
theorem d11_40 : D prog_1_method_14_code 40 (.if_icmp .ne 8) 3 43 := ⟨by decide +kernel, rfl⟩
theorem d11_43 : D prog_1_method_14_code 43 (.iconst 2) 1 44 := ⟨by decide +kernel, rfl⟩
theorem d11_44 : D prog_1_method_14_code 44 (.istore_n 1) 1 45 := ⟨by decide +kernel, rfl⟩
theorem d11_45 : D prog_1_method_14_code 45 (.goto 35) 3 48 := ⟨by decide +kernel, rfl⟩
theorem d11_48 : D prog_1_method_14_code 48 (.aload_n 0) 1 49 := ⟨by decide +kernel, rfl⟩
theorem d11_49 : D prog_1_method_14_code 49 (.getfield 43) 3 52 := ⟨by decide +kernel, rfl⟩
theorem d11_52 : D prog_1_method_14_code 52 (.aload_n 0) 1 53 := ⟨by decide +kernel, rfl⟩
theorem d11_53 : D prog_1_method_14_code 53 (.getfield 24) 3 56 := ⟨by decide +kernel, rfl⟩
theorem d11_56 : D prog_1_method_14_code 56 (.if_icmp .ge 22) 3 59 := ⟨by decide +kernel, rfl⟩
theorem d11_59 : D prog_1_method_14_code 59 (.aload_n 0) 1 60 := ⟨by decide +kernel, rfl⟩
theorem d11_60 : D prog_1_method_14_code 60 (.getfield 20) 3 63 := ⟨by decide +kernel, rfl⟩
theorem d11_63 : D prog_1_method_14_code 63 (.aload_n 0) 1 64 := ⟨by decide +kernel, rfl⟩
theorem d11_64 : D prog_1_method_14_code 64 (.getfield 43) 3 67 := ⟨by decide +kernel, rfl⟩
theorem d11_67 : D prog_1_method_14_code 67 (.baload) 1 68 := ⟨by decide +kernel, rfl⟩
theorem d11_68 : D prog_1_method_14_code 68 (.bipush 10) 2 70 := ⟨by decide +kernel, rfl⟩
theorem d11_70 : D prog_1_method_14_code 70 (.if_icmp .ne 8) 3 73 := ⟨by decide +kernel, rfl⟩
theorem d11_73 : D prog_1_method_14_code 73 (.iconst 1) 1 74 := ⟨by decide +kernel, rfl⟩
theorem d11_74 : D prog_1_method_14_code 74 (.istore_n 1) 1 75 := ⟨by decide +kernel, rfl⟩
theorem d11_75 : D prog_1_method_14_code 75 (.goto 5) 3 78 := ⟨by decide +kernel, rfl⟩
theorem d11_78 : D prog_1_method_14_code 78 (.iconst 0) 1 79 := ⟨by decide +kernel, rfl⟩
theorem d11_79 : D prog_1_method_14_code 79 (.istore_n 1) 1 80 := ⟨by decide +kernel, rfl⟩
theorem d11_80 : D prog_1_method_14_code 80 (.iload_n 1) 1 81 := ⟨by decide +kernel, rfl⟩
theorem d11_81 : D prog_1_method_14_code 81 (.ireturn) 1 82 := ⟨by decide +kernel, rfl⟩
theorem d12_0 : D prog_1_method_4_code 0 (.aload_n 0) 1 1 := ⟨by decide +kernel, rfl⟩
theorem d12_1 : D prog_1_method_4_code 1 (.getfield 49) 3 4 := ⟨by decide +kernel, rfl⟩
theorem d12_4 : D prog_1_method_4_code 4 (.ireturn) 1 5 := ⟨by decide +kernel, rfl⟩
theorem d13_0 : D prog_1_method_6_code 0 (.aload_n 0) 1 1 := ⟨by decide +kernel, rfl⟩
theorem d13_1 : D prog_1_method_6_code 1 (.getfield 13) 3 4 := ⟨by decide +kernel, rfl⟩
theorem d13_4 : D prog_1_method_6_code 4 (.iload_n 1) 1 5 := ⟨by decide +kernel, rfl⟩
theorem d13_5 : D prog_1_method_6_code 5 (.iaload) 1 6 := ⟨by decide +kernel, rfl⟩
theorem d13_6 : D prog_1_method_6_code 6 (.aload_n 0) 1 7 := ⟨by decide +kernel, rfl⟩
theorem d13_7 : D prog_1_method_6_code 7 (.getfield 9) 3 10 := ⟨by decide +kernel, rfl⟩
theorem d13_10 : D prog_1_method_6_code 10 (.iload_n 1) 1 11 := ⟨by decide +kernel, rfl⟩
theorem d13_11 : D prog_1_method_6_code 11 (.iaload) 1 12 := ⟨by decide +kernel, rfl⟩
theorem d13_12 : D prog_1_method_6_code 12 (.isub) 1 13 := ⟨by decide +kernel, rfl⟩
theorem d13_13 : D prog_1_method_6_code 13 (.ireturn) 1 14 := ⟨by decide +kernel, rfl⟩
theorem d14_0 : D method_2_code 0 (.iload_n 3) 1 1 := ⟨by decide +kernel, rfl⟩
theorem d14_1 : D method_2_code 1 (.ifCond .eq 34) 3 4 := ⟨by decide +kernel, rfl⟩
theorem d14_4 : D method_2_code 4 (.iload_n 2) 1 5 := ⟨by decide +kernel, rfl⟩
theorem d14_5 : D method_2_code 5 (.bipush 34) 2 7 := ⟨by decide +kernel, rfl⟩
theorem d14_7 : D method_2_code 7 (.if_icmp .ne 19) 3 10 := ⟨by decide +kernel, rfl⟩
theorem d14_10 : D method_2_code 10 (.aload_n 0) 1 11 := ⟨by decide +kernel, rfl⟩
theorem d14_11 : D method_2_code 11 (.iload_n 1) 1 12 := ⟨by decide +kernel, rfl⟩
theorem d14_12 : D method_2_code 12 (.bipush 34) 2 14 := ⟨by decide +kernel, rfl⟩
theorem d14_14 : D method_2_code 14 (.bastore) 1 15 := ⟨by decide +kernel, rfl⟩
theorem d14_15 : D method_2_code 15 (.aload_n 0) 1 16 := ⟨by decide +kernel, rfl⟩
theorem d14_16 : D method_2_code 16 (.iload_n 1) 1 17 := ⟨by decide +kernel, rfl⟩
theorem d14_17 : D method_2_code 17 (.iconst 1) 1 18 := ⟨by decide +kernel, rfl⟩
theorem d14_18 : D method_2_code 18 (.iadd) 1 19 := ⟨by decide +kernel, rfl⟩
theorem d14_19 : D method_2_code 19 (.bipush 34) 2 21 := ⟨by decide +kernel, rfl⟩
theorem d14_21 : D method_2_code 21 (.bastore) 1 22 := ⟨by decide +kernel, rfl⟩
theorem d14_22 : D method_2_code 22 (.iload_n 1) 1 23 := ⟨by decide +kernel, rfl⟩
theorem d14_23 : D method_2_code 23 (.iconst 2) 1 24 := ⟨by decide +kernel, rfl⟩
theorem d14_24 : D method_2_code 24 (.iadd) 1 25 := ⟨by decide +kernel, rfl⟩
theorem d14_25 : D method_2_code 25 (.ireturn) 1 26 := ⟨by decide +kernel, rfl⟩
theorem d14_26 : D method_2_code 26 (.aload_n 0) 1 27 := ⟨by decide +kernel, rfl⟩
theorem d14_27 : D method_2_code 27 (.iload_n 1) 1 28 := ⟨by decide +kernel, rfl⟩
theorem d14_28 : D method_2_code 28 (.iload_n 2) 1 29 := ⟨by decide +kernel, rfl⟩
theorem d14_29 : D method_2_code 29 (.i2b) 1 30 := ⟨by decide +kernel, rfl⟩
theorem d14_30 : D method_2_code 30 (.bastore) 1 31 := ⟨by decide +kernel, rfl⟩
theorem d14_31 : D method_2_code 31 (.iload_n 1) 1 32 := ⟨by decide +kernel, rfl⟩
theorem d14_32 : D method_2_code 32 (.iconst 1) 1 33 := ⟨by decide +kernel, rfl⟩
theorem d14_33 : D method_2_code 33 (.iadd) 1 34 := ⟨by decide +kernel, rfl⟩
theorem d14_34 : D method_2_code 34 (.ireturn) 1 35 := ⟨by decide +kernel, rfl⟩
theorem d14_35 : D method_2_code 35 (.iload_n 2) 1 36 := ⟨by decide +kernel, rfl⟩
theorem d14_36 : D method_2_code 36 (.istore 5) 2 38 := ⟨by decide +kernel, rfl⟩
theorem d14_38 : D method_2_code 38 (.iload 5) 2 40 := ⟨by decide +kernel, rfl⟩
theorem d14_40 : D method_2_code 40 (.bipush 44) 2 42 := ⟨by decide +kernel, rfl⟩
theorem d14_42 : D method_2_code 42 (.if_icmp .eq 29) 3 45 := ⟨by decide +kernel, rfl⟩
theorem d14_45 : D method_2_code 45 (.iload 5) 2 47 := ⟨by decide +kernel, rfl⟩
theorem d14_47 : D method_2_code 47 (.bipush 34) 2 49 := ⟨by decide +kernel, rfl⟩
theorem d14_49 : D method_2_code 49 (.if_icmp .eq 22) 3 52 := ⟨by decide +kernel, rfl⟩
theorem d14_52 : D method_2_code 52 (.iload 5) 2 54 := ⟨by decide +kernel, rfl⟩
theorem d14_54 : D method_2_code 54 (.bipush 10) 2 56 := ⟨by decide +kernel, rfl⟩
theorem d14_56 : D method_2_code 56 (.if_icmp .eq 15) 3 59 := ⟨by decide +kernel, rfl⟩
theorem d14_59 : D method_2_code 59 (.iload 5) 2 61 := ⟨by decide +kernel, rfl⟩
theorem d14_61 : D method_2_code 61 (.bipush 13) 2 63 := ⟨by decide +kernel, rfl⟩
theorem d14_63 : D method_2_code 63 (.if_icmp .ne 12) 3 66 := ⟨by decide +kernel, rfl⟩
theorem d14_66 : D method_2_code 66 (.iload 4) 2 68 := ⟨by decide +kernel, rfl⟩
theorem d14_68 : D method_2_code 68 (.ifCond .eq 7) 3 71 := ⟨by decide +kernel, rfl⟩
theorem d14_71 : D method_2_code 71 (.bipush 97) 2 73 := ⟨by decide +kernel, rfl⟩
theorem d14_73 : D method_2_code 73 (.istore 5) 2 75 := ⟨by decide +kernel, rfl⟩
theorem d14_75 : D method_2_code 75 (.aload_n 0) 1 76 := ⟨by decide +kernel, rfl⟩
theorem d14_76 : D method_2_code 76 (.iload_n 1) 1 77 := ⟨by decide +kernel, rfl⟩
theorem d14_77 : D method_2_code 77 (.iload 5) 2 79 := ⟨by decide +kernel, rfl⟩
theorem d14_79 : D method_2_code 79 (.i2b) 1 80 := ⟨by decide +kernel, rfl⟩
theorem d14_80 : D method_2_code 80 (.bastore) 1 81 := ⟨by decide +kernel, rfl⟩
theorem d14_81 : D method_2_code 81 (.iload_n 1) 1 82 := ⟨by decide +kernel, rfl⟩
theorem d14_82 : D method_2_code 82 (.iconst 1) 1 83 := ⟨by decide +kernel, rfl⟩
theorem d14_83 : D method_2_code 83 (.iadd) 1 84 := ⟨by decide +kernel, rfl⟩
theorem d14_84 : D method_2_code 84 (.ireturn) 1 85 := ⟨by decide +kernel, rfl⟩
theorem d15_0 : D prog_1_method_10_code 0 (.aload_n 0) 1 1 := ⟨by decide +kernel, rfl⟩
theorem d15_1 : D prog_1_method_10_code 1 (.getfield 9) 3 4 := ⟨by decide +kernel, rfl⟩
theorem d15_4 : D prog_1_method_10_code 4 (.aload_n 0) 1 5 := ⟨by decide +kernel, rfl⟩
theorem d15_5 : D prog_1_method_10_code 5 (.getfield 49) 3 8 := ⟨by decide +kernel, rfl⟩
theorem d15_8 : D prog_1_method_10_code 8 (.aload_n 0) 1 9 := ⟨by decide +kernel, rfl⟩
theorem d15_9 : D prog_1_method_10_code 9 (.getfield 43) 3 12 := ⟨by decide +kernel, rfl⟩
theorem d15_12 : D prog_1_method_10_code 12 (.iconst 1) 1 13 := ⟨by decide +kernel, rfl⟩
theorem d15_13 : D prog_1_method_10_code 13 (.iadd) 1 14 := ⟨by decide +kernel, rfl⟩
theorem d15_14 : D prog_1_method_10_code 14 (.iastore) 1 15 := ⟨by decide +kernel, rfl⟩
theorem d15_15 : D prog_1_method_10_code 15 (.aload_n 0) 1 16 := ⟨by decide +kernel, rfl⟩
theorem d15_16 : D prog_1_method_10_code 16 (.getfield 16) 3 19 := ⟨by decide +kernel, rfl⟩
theorem d15_19 : D prog_1_method_10_code 19 (.aload_n 0) 1 20 := ⟨by decide +kernel, rfl⟩
theorem d15_20 : D prog_1_method_10_code 20 (.getfield 49) 3 23 := ⟨by decide +kernel, rfl⟩
theorem d15_23 : D prog_1_method_10_code 23 (.iconst 0) 1 24 := ⟨by decide +kernel, rfl⟩
theorem d15_24 : D prog_1_method_10_code 24 (.bastore) 1 25 := ⟨by decide +kernel, rfl⟩
theorem d15_25 : D prog_1_method_10_code 25 (.aload_n 0) 1 26 := ⟨by decide +kernel, rfl⟩
theorem d15_26 : D prog_1_method_10_code 26 (.aload_n 0) 1 27 := ⟨by decide +kernel, rfl⟩
theorem d15_27 : D prog_1_method_10_code 27 (.getfield 43) 3 30 := ⟨by decide +kernel, rfl⟩
theorem d15_30 : D prog_1_method_10_code 30 (.iconst 1) 1 31 := ⟨by decide +kernel, rfl⟩
theorem d15_31 : D prog_1_method_10_code 31 (.iadd) 1 32 := ⟨by decide +kernel, rfl⟩
theorem d15_32 : D prog_1_method_10_code 32 (.invokevirtual 135) 3 35 := ⟨by decide +kernel, rfl⟩
theorem d15_35 : D prog_1_method_10_code 35 (.istore_n 1) 1 36 := ⟨by decide +kernel, rfl⟩
theorem d15_36 : D prog_1_method_10_code 36 (.iload_n 1) 1 37 := ⟨by decide +kernel, rfl⟩
theorem d15_37 : D prog_1_method_10_code 37 (.iconst 1) 1 38 := ⟨by decide +kernel, rfl⟩
theorem d15_38 : D prog_1_method_10_code 38 (.iadd) 1 39 := ⟨by decide +kernel, rfl⟩
theorem d15_39 : D prog_1_method_10_code 39 (.aload_n 0) 1 40 := ⟨by decide +kernel, rfl⟩
theorem d15_40 : D prog_1_method_10_code 40 (.getfield 24) 3 43 := ⟨by decide +kernel, rfl⟩
theorem d15_43 : D prog_1_method_10_code 43 (.if_icmp .ge 37) 3 46 := ⟨by decide +kernel, rfl⟩
theorem d15_46 : D prog_1_method_10_code 46 (.aload_n 0) 1 47 := ⟨by decide +kernel, rfl⟩
theorem d15_47 : D prog_1_method_10_code 47 (.getfield 20) 3 50 := ⟨by decide +kernel, rfl⟩
theorem d15_50 : D prog_1_method_10_code 50 (.iload_n 1) 1 51 := ⟨by decide +kernel, rfl⟩
theorem d15_51 : D prog_1_method_10_code 51 (.iconst 1) 1 52 := ⟨by decide +kernel, rfl⟩
theorem d15_52 : D prog_1_method_10_code 52 (.iadd) 1 53 := ⟨by decide +kernel, rfl⟩
theorem d15_53 : D prog_1_method_10_code 53 (.baload) 1 54 := ⟨by decide +kernel, rfl⟩
theorem d15_54 : D prog_1_method_10_code 54 (.bipush 34) 2 56 := ⟨by decide +kernel, rfl⟩
theorem d15_56 : D prog_1_method_10_code 56 (.if_icmp .ne 24) 3 59 := ⟨by decide +kernel, rfl⟩
theorem d15_59 : D prog_1_method_10_code 59 (.aload_n 0) 1 60 := ⟨by decide +kernel, rfl⟩
theorem d15_60 : D prog_1_method_10_code 60 (.getfield 16) 3 63 := ⟨by decide +kernel, rfl⟩
theorem d15_63 : D prog_1_method_10_code 63 (.aload_n 0) 1 64 := ⟨by decide +kernel, rfl⟩
theorem d15_64 : D prog_1_method_10_code 64 (.getfield 49) 3 67 := ⟨by decide +kernel, rfl⟩
theorem d15_67 : D prog_1_method_10_code 67 (.iconst 1) 1 68 := ⟨by decide +kernel, rfl⟩
theorem d15_68 : D prog_1_method_10_code 68 (.bastore) 1 69 := ⟨by decide +kernel, rfl⟩
theorem d15_69 : D prog_1_method_10_code 69 (.aload_n 0) 1 70 := ⟨by decide +kernel, rfl⟩
theorem d15_70 : D prog_1_method_10_code 70 (.iload_n 1) 1 71 := ⟨by decide +kernel, rfl⟩
theorem d15_71 : D prog_1_method_10_code 71 (.iconst 2) 1 72 := ⟨by decide +kernel, rfl⟩
theorem d15_72 : D prog_1_method_10_code 72 (.iadd) 1 73 := ⟨by decide +kernel, rfl⟩
theorem d15_73 : D prog_1_method_10_code 73 (.invokevirtual 135) 3 76 := ⟨by decide +kernel, rfl⟩
theorem d15_76 : D prog_1_method_10_code 76 (.istore_n 1) 1 77 := ⟨by decide +kernel, rfl⟩
theorem d15_77 : D prog_1_method_10_code 77 (.goto (-41)) 3 80 := ⟨by decide +kernel, rfl⟩
theorem d15_80 : D prog_1_method_10_code 80 (.iload_n 1) 1 81 := ⟨by decide +kernel, rfl⟩
theorem d15_81 : D prog_1_method_10_code 81 (.aload_n 0) 1 82 := ⟨by decide +kernel, rfl⟩
theorem d15_82 : D prog_1_method_10_code 82 (.getfield 24) 3 85 := ⟨by decide +kernel, rfl⟩
theorem d15_85 : D prog_1_method_10_code 85 (.if_icmp .ne 10) 3 88 := ⟨by decide +kernel, rfl⟩
theorem d15_95 : D prog_1_method_10_code 95 (.aload_n 0) 1 96 := ⟨by decide +kernel, rfl⟩
theorem d15_96 : D prog_1_method_10_code 96 (.getfield 13) 3 99 := ⟨by decide +kernel, rfl⟩
theorem d15_99 : D prog_1_method_10_code 99 (.aload_n 0) 1 100 := ⟨by decide +kernel, rfl⟩
theorem d15_100 : D prog_1_method_10_code 100 (.getfield 49) 3 103 := ⟨by decide +kernel, rfl⟩
theorem d15_103 : D prog_1_method_10_code 103 (.iload_n 1) 1 104 := ⟨by decide +kernel, rfl⟩
theorem d15_104 : D prog_1_method_10_code 104 (.iastore) 1 105 := ⟨by decide +kernel, rfl⟩
theorem d15_105 : D prog_1_method_10_code 105 (.aload_n 0) 1 106 := ⟨by decide +kernel, rfl⟩
theorem d15_106 : D prog_1_method_10_code 106 (.iload_n 1) 1 107 := ⟨by decide +kernel, rfl⟩
theorem d15_107 : D prog_1_method_10_code 107 (.iconst 1) 1 108 := ⟨by decide +kernel, rfl⟩
theorem d15_108 : D prog_1_method_10_code 108 (.iadd) 1 109 := ⟨by decide +kernel, rfl⟩
theorem d15_109 : D prog_1_method_10_code 109 (.putfield 43) 3 112 := ⟨by decide +kernel, rfl⟩
theorem d15_112 : D prog_1_method_10_code 112 (.return_) 1 113 := ⟨by decide +kernel, rfl⟩
theorem d16_0 : D prog_1_method_13_code 0 (.aload_n 0) 1 1 := ⟨by decide +kernel, rfl⟩
theorem d16_1 : D prog_1_method_13_code 1 (.getfield 20) 3 4 := ⟨by decide +kernel, rfl⟩
theorem d16_4 : D prog_1_method_13_code 4 (.astore_n 2) 1 5 := ⟨by decide +kernel, rfl⟩
theorem d16_5 : D prog_1_method_13_code 5 (.aload_n 0) 1 6 := ⟨by decide +kernel, rfl⟩
theorem d16_6 : D prog_1_method_13_code 6 (.getfield 24) 3 9 := ⟨by decide +kernel, rfl⟩
theorem d16_9 : D prog_1_method_13_code 9 (.istore_n 3) 1 10 := ⟨by decide +kernel, rfl⟩
theorem d16_10 : D prog_1_method_13_code 10 (.iconst 0) 1 11 := ⟨by decide +kernel, rfl⟩
theorem d16_11 : D prog_1_method_13_code 11 (.istore 4) 2 13 := ⟨by decide +kernel, rfl⟩
theorem d16_13 : D prog_1_method_13_code 13 (.iload_n 1) 1 14 := ⟨by decide +kernel, rfl⟩
theorem d16_14 : D prog_1_method_13_code 14 (.istore 5) 2 16 := ⟨by decide +kernel, rfl⟩
theorem d16_16 : D prog_1_method_13_code 16 (.iload 5) 2 18 := ⟨by decide +kernel, rfl⟩
theorem d16_18 : D prog_1_method_13_code 18 (.iload_n 3) 1 19 := ⟨by decide +kernel, rfl⟩
theorem d16_19 : D prog_1_method_13_code 19 (.if_icmp .ge 27) 3 22 := ⟨by decide +kernel, rfl⟩
theorem d16_22 : D prog_1_method_13_code 22 (.aload_n 2) 1 23 := ⟨by decide +kernel, rfl⟩
theorem d16_23 : D prog_1_method_13_code 23 (.iload 5) 2 25 := ⟨by decide +kernel, rfl⟩
theorem d16_25 : D prog_1_method_13_code 25 (.baload) 1 26 := ⟨by decide +kernel, rfl⟩
theorem d16_26 : D prog_1_method_13_code 26 (.bipush 34) 2 28 := ⟨by decide +kernel, rfl⟩
theorem d16_28 : D prog_1_method_13_code 28 (.if_icmp .eq 18) 3 31 := ⟨by decide +kernel, rfl⟩
theorem d16_31 : D prog_1_method_13_code 31 (.iload 4) 2 33 := ⟨by decide +kernel, rfl⟩
theorem d16_33 : D prog_1_method_13_code 33 (.aload_n 2) 1 34 := ⟨by decide +kernel, rfl⟩
theorem d16_34 : D prog_1_method_13_code 34 (.iload 5) 2 36 := ⟨by decide +kernel, rfl⟩
theorem d16_36 : D prog_1_method_13_code 36 (.baload) 1 37 := ⟨by decide +kernel, rfl⟩
theorem d16_37 : D prog_1_method_13_code 37 (.ior) 1 38 := ⟨by decide +kernel, rfl⟩
theorem d16_38 : D prog_1_method_13_code 38 (.istore 4) 2 40 := ⟨by decide +kernel, rfl⟩
theorem d16_40 : D prog_1_method_13_code 40 (.iinc 5 1) 3 43 := ⟨by decide +kernel, rfl⟩
theorem d16_43 : D prog_1_method_13_code 43 (.goto (-27)) 3 46 := ⟨by decide +kernel, rfl⟩
theorem d16_46 : D prog_1_method_13_code 46 (.aload_n 0) 1 47 := ⟨by decide +kernel, rfl⟩
theorem d16_47 : D prog_1_method_13_code 47 (.dup) 1 48 := ⟨by decide +kernel, rfl⟩
theorem d16_48 : D prog_1_method_13_code 48 (.getfield 75) 3 51 := ⟨by decide +kernel, rfl⟩
theorem d16_51 : D prog_1_method_13_code 51 (.iload 4) 2 53 := ⟨by decide +kernel, rfl⟩
theorem d16_53 : D prog_1_method_13_code 53 (.ior) 1 54 := ⟨by decide +kernel, rfl⟩
theorem d16_54 : D prog_1_method_13_code 54 (.putfield 75) 3 57 := ⟨by decide +kernel, rfl⟩
theorem d16_57 : D prog_1_method_13_code 57 (.iload 5) 2 59 := ⟨by decide +kernel, rfl⟩
theorem d16_59 : D prog_1_method_13_code 59 (.ireturn) 1 60 := ⟨by decide +kernel, rfl⟩
theorem pd_0 : parseMethodDescriptor "(I)I" = some ⟨[.int], some .int⟩ := by decide +kernel
theorem pd_1 : parseMethodDescriptor "()V" = some ⟨[], none⟩ := by decide +kernel
theorem pd_2 : parseMethodDescriptor "()I" = some ⟨[], some .int⟩ := by decide +kernel
theorem pd_3 : parseMethodDescriptor "(III)V" = some ⟨[.int, .int, .int], none⟩ := by decide +kernel
theorem pd_4 : parseMethodDescriptor "([BI[BII)I" = some ⟨[(.array .byte), .int, (.array .byte), .int, .int], some .int⟩ := by decide +kernel
theorem pd_5 : parseMethodDescriptor "(II)I" = some ⟨[.int, .int], some .int⟩ := by decide +kernel
theorem pd_6 : parseMethodDescriptor "([BII[BII)Z" = some ⟨[(.array .byte), .int, .int, (.array .byte), .int, .int], some .boolean⟩ := by decide +kernel
theorem pd_7 : parseMethodDescriptor "([BIIZZ)I" = some ⟨[(.array .byte), .int, .int, .boolean, .boolean], some .int⟩ := by decide +kernel
theorem pd_8 : parseMethodDescriptor "([BI[IIIIIZ)I" = some ⟨[(.array .byte), .int, (.array .int), .int, .int, .int, .int, .boolean], some .int⟩ := by decide +kernel
theorem pd_9 : parseMethodDescriptor "([B)V" = some ⟨[(.array .byte)], none⟩ := by decide +kernel
theorem pd_10 : parseMethodDescriptor "()Z" = some ⟨[], some .boolean⟩ := by decide +kernel
/-! CSV, the plain part: positions as numbers; a text as a list of bytes; segments -/
section CsvPlain
def iN (n : Nat) : Int32 := Int32.ofNat n
theorem iN_toInt {n : Nat} (h : n < 2 ^ 31) : (iN n).toInt = n := Int32.toInt_ofNat_small h
theorem iN_add (a b : Nat) : iN a + iN b = iN (a + b) := (Int32.ofNat_add a b).symm
theorem iN_inc (a : Nat) : iN a + Int32.ofInt 1 = iN (a + 1) := iN_add a 1
theorem iN_sub {a b : Nat} (h : b ≤ a) (ha : a < 2 ^ 31) : iN a - iN b = iN (a - b) := by
  apply Int32.toInt_inj.mp
  rw [Jvm.Kit.i32_sub (by rw [iN_toInt ha, iN_toInt (by omega)]; omega) (by rw [iN_toInt ha, iN_toInt (by omega)]; omega), iN_toInt ha, iN_toInt (by omega), iN_toInt (by omega)]; omega
theorem iN_lt {a b : Nat} (ha : a < 2 ^ 31) (hb : b < 2 ^ 31) : iN a < iN b ↔ a < b := by rw [Int32.lt_iff_toInt_lt, iN_toInt ha, iN_toInt hb]; omega
theorem iN_eq {a b : Nat} (ha : a < 2 ^ 31) (hb : b < 2 ^ 31) : iN a = iN b ↔ a = b := by rw [← Int32.toInt_inj, iN_toInt ha, iN_toInt hb]; omega
theorem ix_iN {a : Nat} (ha : a < 2 ^ 31) : Ix (iN a) a := Ix.of (iN_toInt ha)
def AllB (t : List Int32) : Prop := ∀ (i : Nat) (b : Int32), t[i]? = some b → 0 ≤ b.toInt ∧ b.toInt < 128
theorem AllB.set {t : List Int32} {i : Nat} {b : Int32} (A : AllB t) (h : 0 ≤ b.toInt ∧ b.toInt < 128) : AllB (t.set i b) := fun j x hx => by
  by_cases e : i = j
  · subst e
    by_cases l : i < t.length
    · rw [List.getElem?_set_self l] at hx; cases hx; exact h
    · rw [List.getElem?_eq_none (by rw [List.length_set]; omega)] at hx; cases hx
  · rw [List.getElem?_set_ne e] at hx; exact A j x hx
theorem byte_id {c : Int32} (h : 0 ≤ c.toInt ∧ c.toInt < 128) : c.toInt8.toInt32 = c := by
  apply Int32.toInt_inj.mp
  rw [Int8.toInt_toInt32, Int32.toInt_toInt8, Int.bmod_eq_of_le (by omega) (by omega)]
theorem nn_msb (x : Int32) : ¬ x < 0 ↔ x.toBitVec.msb = false := by
  rw [Int32.lt_iff_toBitVec_slt]
  show ¬ (x.toBitVec.slt 0#32 = true) ↔ _
  rw [Bool.not_eq_true, BitVec.slt_zero_eq_msb]
theorem or_nn {x y : Int32} (hx : ¬ x < 0) (hy : ¬ y < 0) : ¬ (x ||| y) < 0 := by
  rw [nn_msb] at *
  rw [Int32.toBitVec_or, BitVec.msb_or, hx, hy]; rfl
theorem nn_of {b : Int32} (h : 0 ≤ b.toInt ∧ b.toInt < 128) : ¬ b < 0 := by rw [Int32.lt_iff_toInt_lt]; have : (0 : Int32).toInt = 0 := rfl; omega
/-- quoted content from s up to e: bytes that are no quote, and pairs of quotes -/
def QSeg (t : List Int32) (s e : Nat) : Prop := ∀ P : Nat → Prop, P e → (∀ i b, t[i]? = some b → b ≠ 34 → P (i + 1) → P i) → (∀ i, t[i]? = some 34 → t[i + 1]? = some 34 → P (i + 2) → P i) → P s
/-- plain content from s up to e: no comma, quote or line feed; behind a carriage return there is more -/
def PSeg (t : List Int32) (s e : Nat) : Prop := ∀ P : Nat → Prop, P e → (∀ i b, t[i]? = some b → b ≠ 44 → b ≠ 10 → b ≠ 13 → b ≠ 34 → P (i + 1) → P i) → (∀ i b, t[i]? = some 13 → i + 1 < e → t[i + 1]? = some b → b ≠ 10 → P (i + 1) → P i) → P s
variable {t t' : List Int32} {s q e : Nat}
theorem QSeg.nil : QSeg t e e := fun P h _ _ => h
theorem QSeg.one {b : Int32} (h : t[s]? = some b) (hb : b ≠ 34) (Q : QSeg t (s + 1) e) : QSeg t s e := fun P h0 h1 h2 => h1 s b h hb (Q P h0 h1 h2)
theorem QSeg.two (h : t[s]? = some 34) (h' : t[s + 1]? = some 34) (Q : QSeg t (s + 2) e) : QSeg t s e := fun P h0 h1 h2 => h2 s h h' (Q P h0 h1 h2)
theorem QSeg.trans (A : QSeg t s q) (B : QSeg t q e) : QSeg t s e := A (fun i => QSeg t i e) B (fun i b h hb Q => Q.one h hb) (fun i h h' Q => Q.two h h')
theorem QSeg.le (A : QSeg t s e) : s ≤ e := A (fun i => i ≤ e) (Nat.le_refl _) (fun i b _ _ h => by omega) (fun i _ _ h => by omega)
theorem QSeg.congr (A : QSeg t s e) (h : ∀ i, i < e → t'[i]? = t[i]?) : QSeg t' s e :=
  (A (fun i => i ≤ e ∧ QSeg t' i e) ⟨Nat.le_refl _, QSeg.nil⟩ (fun i b h1 h2 Q => ⟨by omega, Q.2.one (by rw [h i (by omega)]; exact h1) h2⟩) (fun i h1 h2 Q => ⟨by omega, Q.2.two (by rw [h i (by omega)]; exact h1) (by rw [h (i + 1) (by omega)]; exact h2)⟩)).2
theorem PSeg.nil : PSeg t e e := fun P h _ _ => h
theorem PSeg.one {b : Int32} (h : t[s]? = some b) (h1 : b ≠ 44) (h2 : b ≠ 10) (h3 : b ≠ 13) (h4 : b ≠ 34) (Q : PSeg t (s + 1) e) : PSeg t s e := fun P k0 k1 k2 => k1 s b h h1 h2 h3 h4 (Q P k0 k1 k2)
theorem PSeg.cr {b : Int32} (h : t[s]? = some 13) (hl : s + 1 < e) (h1 : t[s + 1]? = some b) (h2 : b ≠ 10) (Q : PSeg t (s + 1) e) : PSeg t s e := fun P k0 k1 k2 => k2 s b h hl h1 h2 (Q P k0 k1 k2)
theorem PSeg.le (A : PSeg t s e) : s ≤ e := A (fun i => i ≤ e) (Nat.le_refl _) (fun i b _ _ _ _ _ h => by omega) (fun i b _ _ _ _ h => by omega)
theorem PSeg.congr (A : PSeg t s e) (h : ∀ i, i < e → t'[i]? = t[i]?) : PSeg t' s e :=
  (A (fun i => i ≤ e ∧ PSeg t' i e) ⟨Nat.le_refl _, PSeg.nil⟩ (fun i b h1 h2 h3 h4 h5 Q => ⟨by omega, Q.2.one (by rw [h i (by omega)]; exact h1) h2 h3 h4 h5⟩) (fun i b h1 hl h2 h3 Q => ⟨by omega, Q.2.cr (by rw [h i (by omega)]; exact h1) hl (by rw [h (i + 1) hl]; exact h2) h3⟩)).2
theorem PSeg.first (A : PSeg t s e) (h : t[e]? ≠ some 34) : t[s]? ≠ some 34 :=
  A (fun i => t[i]? ≠ some 34) h (fun i b h1 _ _ _ h4 _ q => by rw [h1] at q; cases q; exact h4 rfl) (fun i b h1 _ _ _ _ q => by rw [h1] at q; cases q)
/-- all z from q on, up to e -/
def Zs (t : List Int32) (q e : Nat) : Prop := ∀ i, q ≤ i → i < e → t[i]? = some 122
theorem zs_q (Z : Zs t q e) (h : q ≤ e) : QSeg t q e := by
  obtain ⟨n, rfl⟩ : ∃ n, e = q + n := ⟨e - q, by omega⟩
  clear h
  induction n generalizing q with
  | zero => exact QSeg.nil
  | succ n ih =>
    have := ih (q := q + 1) (fun i h1 h2 => Z i (by omega) (by omega))
    rw [show q + 1 + n = q + (n + 1) by omega] at this
    exact this.one (Z q (Nat.le_refl _) (by omega)) (by decide)
theorem zs_p (Z : Zs t q e) (h : q ≤ e) : PSeg t q e := by
  obtain ⟨n, rfl⟩ : ∃ n, e = q + n := ⟨e - q, by omega⟩
  clear h
  induction n generalizing q with
  | zero => exact PSeg.nil
  | succ n ih =>
    have := ih (q := q + 1) (fun i h1 h2 => Z i (by omega) (by omega))
    rw [show q + 1 + n = q + (n + 1) by omega] at this
    exact this.one (Z q (Nat.le_refl _) (by omega)) (by decide) (by decide) (by decide) (by decide)
/-- a field: it begins at b, its bytes run from s to e, what parts it stands at f -/
def FieldAt (t : List Int32) (b s e f : Nat) : Prop := (t[b]? = some 34 ∧ s = b + 1 ∧ QSeg t s e ∧ t[e]? = some 34 ∧ f = e + 1) ∨ (s = b ∧ PSeg t s e ∧ f = e)
theorem FieldAt.congr {b f : Nat} (F : FieldAt t b s e f) (h : ∀ i, i < f → t'[i]? = t[i]?) : FieldAt t' b s e f := by
  rcases F with ⟨h1, h2, h3, h4, h5⟩ | ⟨h1, h2, h3⟩
  · have := h3.le
    exact Or.inl ⟨by rw [h b (by omega)]; exact h1, h2, h3.congr (fun i hi => h i (by omega)), by rw [h e (by omega)]; exact h4, h5⟩
  · exact Or.inr ⟨h1, h2.congr (fun i hi => h i (by omega)), h3⟩
/-- the first quote at or after i; the first byte at which a plain field may stop -/
def FQ (t : List Int32) (n i j : Nat) : Prop := i ≤ j ∧ j ≤ n ∧ (∀ x, i ≤ x → x < j → t[x]? ≠ some 34) ∧ (j = n ∨ t[j]? = some 34)
def Stp (b : Int32) : Prop := b = 44 ∨ b = 10 ∨ b = 13 ∨ b = 34
def FS (t : List Int32) (n i j : Nat) : Prop := i ≤ j ∧ j ≤ n ∧ (∀ x b, i ≤ x → x < j → t[x]? = some b → ¬ Stp b) ∧ (j = n ∨ ∃ b, t[j]? = some b ∧ Stp b)
end CsvPlain

def RO (Z : State) (h : Heap) (a tx sa ea da : Addr) (av rv bo sz : Int32) : Prop := Exa Z h a "com/example/lintel/lintel/io/CsvReader" ∧ Fld Z h a "com/example/lintel/lintel/io/CsvReader" "text" "[B" (.ref tx) ∧ Fld Z h a "com/example/lintel/lintel/io/CsvReader" "length" "I" (.int 32) ∧ Fld Z h a "com/example/lintel/lintel/io/CsvReader" "starts" "[I" (.ref sa) ∧ Fld Z h a "com/example/lintel/lintel/io/CsvReader" "ends" "[I" (.ref ea) ∧ Fld Z h a "com/example/lintel/lintel/io/CsvReader" "doubledQuotes" "[Z" (.ref da) ∧ Fld Z h a "com/example/lintel/lintel/io/CsvReader" "at" "I" (.int av) ∧ Fld Z h a "com/example/lintel/lintel/io/CsvReader" "row" "I" (.int rv) ∧ Fld Z h a "com/example/lintel/lintel/io/CsvReader" "bytesOr" "I" (.int bo) ∧ Fld Z h a "com/example/lintel/lintel/io/CsvReader" "size" "I" (.int sz)
theorem RO.ext {Z : State} {h h' : Heap} {a tx sa ea da : Addr} {av rv bo sz : Int32} (F : RO Z h a tx sa ea da av rv bo sz) (E : Ext h h') : RO Z h' a tx sa ea da av rv bo sz := by
  obtain ⟨A, f0, f1, f2, f3, f4, f5, f6, f7, f8⟩ := F
  exact ⟨A.ext E, f0.ext E, f1.ext E, f2.ext E, f3.ext E, f4.ext E, f5.ext E, f6.ext E, f7.ext E, f8.ext E⟩
theorem RO.other {Z : State} {h h' : Heap} {a tx sa ea da x : Addr} {av rv bo sz : Int32} {sl : Nat} {v : Value} (F : RO Z h a tx sa ea da av rv bo sz) (W : Wr h h' x sl v) (ne : a ≠ x) : RO Z h' a tx sa ea da av rv bo sz := by
  obtain ⟨A, f0, f1, f2, f3, f4, f5, f6, f7, f8⟩ := F
  exact ⟨A.wr W, f0.other W (Or.inl ne), f1.other W (Or.inl ne), f2.other W (Or.inl ne), f3.other W (Or.inl ne), f4.other W (Or.inl ne), f5.other W (Or.inl ne), f6.other W (Or.inl ne), f7.other W (Or.inl ne), f8.other W (Or.inl ne)⟩
theorem RO.set_at {Z : State} {a0 : Array Value} (hw : ∀ d ∈ tables_1, d.before a0 Z = true) {h h' : Heap} {a tx sa ea da : Addr} {av rv bo sz v : Int32} (F : RO Z h a tx sa ea da av rv bo sz) (W : Wr h h' a (Jvm.RoadKit.slotOf Z "com/example/lintel/lintel/io/CsvReader" "at" "I") (.int v)) : RO Z h' a tx sa ea da v rv bo sz := by
  obtain ⟨A, f0, f1, f2, f3, f4, f5, f6, f7, f8⟩ := F
  exact ⟨A.wr W, f0.other W (Or.inr (slot_ne (Or.inr (hw _ (List.mem_of_getElem? (i := 23) rfl)) : Laid Z a0 "com/example/lintel/lintel/io/CsvReader" "com/example/lintel/lintel/io/CsvReader" "text" "[B") (Or.inl (hw _ (List.mem_of_getElem? (i := 44) rfl)) : Laid Z a0 "com/example/lintel/lintel/io/CsvReader" "com/example/lintel/lintel/io/CsvReader" "at" "I") (by decide) (t := (.array .byte)) (by decide) (t' := .int) (by decide))), f1.other W (Or.inr (slot_ne (Or.inr (hw _ (List.mem_of_getElem? (i := 25) rfl)) : Laid Z a0 "com/example/lintel/lintel/io/CsvReader" "com/example/lintel/lintel/io/CsvReader" "length" "I") (Or.inl (hw _ (List.mem_of_getElem? (i := 44) rfl)) : Laid Z a0 "com/example/lintel/lintel/io/CsvReader" "com/example/lintel/lintel/io/CsvReader" "at" "I") (by decide) (t := .int) (by decide) (t' := .int) (by decide))), f2.other W (Or.inr (slot_ne (Or.inl (hw _ (List.mem_of_getElem? (i := 16) rfl)) : Laid Z a0 "com/example/lintel/lintel/io/CsvReader" "com/example/lintel/lintel/io/CsvReader" "starts" "[I") (Or.inl (hw _ (List.mem_of_getElem? (i := 44) rfl)) : Laid Z a0 "com/example/lintel/lintel/io/CsvReader" "com/example/lintel/lintel/io/CsvReader" "at" "I") (by decide) (t := (.array .int)) (by decide) (t' := .int) (by decide))), f3.other W (Or.inr (slot_ne (Or.inl (hw _ (List.mem_of_getElem? (i := 18) rfl)) : Laid Z a0 "com/example/lintel/lintel/io/CsvReader" "com/example/lintel/lintel/io/CsvReader" "ends" "[I") (Or.inl (hw _ (List.mem_of_getElem? (i := 44) rfl)) : Laid Z a0 "com/example/lintel/lintel/io/CsvReader" "com/example/lintel/lintel/io/CsvReader" "at" "I") (by decide) (t := (.array .int)) (by decide) (t' := .int) (by decide))), f4.other W (Or.inr (slot_ne (Or.inl (hw _ (List.mem_of_getElem? (i := 21) rfl)) : Laid Z a0 "com/example/lintel/lintel/io/CsvReader" "com/example/lintel/lintel/io/CsvReader" "doubledQuotes" "[Z") (Or.inl (hw _ (List.mem_of_getElem? (i := 44) rfl)) : Laid Z a0 "com/example/lintel/lintel/io/CsvReader" "com/example/lintel/lintel/io/CsvReader" "at" "I") (by decide) (t := (.array .boolean)) (by decide) (t' := .int) (by decide))), f5.same W, f6.other W (Or.inr (slot_ne (Or.inl (hw _ (List.mem_of_getElem? (i := 51) rfl)) : Laid Z a0 "com/example/lintel/lintel/io/CsvReader" "com/example/lintel/lintel/io/CsvReader" "row" "I") (Or.inl (hw _ (List.mem_of_getElem? (i := 44) rfl)) : Laid Z a0 "com/example/lintel/lintel/io/CsvReader" "com/example/lintel/lintel/io/CsvReader" "at" "I") (by decide) (t := .int) (by decide) (t' := .int) (by decide))), f7.other W (Or.inr (slot_ne (Or.inl (hw _ (List.mem_of_getElem? (i := 63) rfl)) : Laid Z a0 "com/example/lintel/lintel/io/CsvReader" "com/example/lintel/lintel/io/CsvReader" "bytesOr" "I") (Or.inl (hw _ (List.mem_of_getElem? (i := 44) rfl)) : Laid Z a0 "com/example/lintel/lintel/io/CsvReader" "com/example/lintel/lintel/io/CsvReader" "at" "I") (by decide) (t := .int) (by decide) (t' := .int) (by decide))), f8.other W (Or.inr (slot_ne (Or.inl (hw _ (List.mem_of_getElem? (i := 53) rfl)) : Laid Z a0 "com/example/lintel/lintel/io/CsvReader" "com/example/lintel/lintel/io/CsvReader" "size" "I") (Or.inl (hw _ (List.mem_of_getElem? (i := 44) rfl)) : Laid Z a0 "com/example/lintel/lintel/io/CsvReader" "com/example/lintel/lintel/io/CsvReader" "at" "I") (by decide) (t := .int) (by decide) (t' := .int) (by decide)))⟩
theorem RO.set_row {Z : State} {a0 : Array Value} (hw : ∀ d ∈ tables_1, d.before a0 Z = true) {h h' : Heap} {a tx sa ea da : Addr} {av rv bo sz v : Int32} (F : RO Z h a tx sa ea da av rv bo sz) (W : Wr h h' a (Jvm.RoadKit.slotOf Z "com/example/lintel/lintel/io/CsvReader" "row" "I") (.int v)) : RO Z h' a tx sa ea da av v bo sz := by
  obtain ⟨A, f0, f1, f2, f3, f4, f5, f6, f7, f8⟩ := F
  exact ⟨A.wr W, f0.other W (Or.inr (slot_ne (Or.inr (hw _ (List.mem_of_getElem? (i := 23) rfl)) : Laid Z a0 "com/example/lintel/lintel/io/CsvReader" "com/example/lintel/lintel/io/CsvReader" "text" "[B") (Or.inl (hw _ (List.mem_of_getElem? (i := 51) rfl)) : Laid Z a0 "com/example/lintel/lintel/io/CsvReader" "com/example/lintel/lintel/io/CsvReader" "row" "I") (by decide) (t := (.array .byte)) (by decide) (t' := .int) (by decide))), f1.other W (Or.inr (slot_ne (Or.inr (hw _ (List.mem_of_getElem? (i := 25) rfl)) : Laid Z a0 "com/example/lintel/lintel/io/CsvReader" "com/example/lintel/lintel/io/CsvReader" "length" "I") (Or.inl (hw _ (List.mem_of_getElem? (i := 51) rfl)) : Laid Z a0 "com/example/lintel/lintel/io/CsvReader" "com/example/lintel/lintel/io/CsvReader" "row" "I") (by decide) (t := .int) (by decide) (t' := .int) (by decide))), f2.other W (Or.inr (slot_ne (Or.inl (hw _ (List.mem_of_getElem? (i := 16) rfl)) : Laid Z a0 "com/example/lintel/lintel/io/CsvReader" "com/example/lintel/lintel/io/CsvReader" "starts" "[I") (Or.inl (hw _ (List.mem_of_getElem? (i := 51) rfl)) : Laid Z a0 "com/example/lintel/lintel/io/CsvReader" "com/example/lintel/lintel/io/CsvReader" "row" "I") (by decide) (t := (.array .int)) (by decide) (t' := .int) (by decide))), f3.other W (Or.inr (slot_ne (Or.inl (hw _ (List.mem_of_getElem? (i := 18) rfl)) : Laid Z a0 "com/example/lintel/lintel/io/CsvReader" "com/example/lintel/lintel/io/CsvReader" "ends" "[I") (Or.inl (hw _ (List.mem_of_getElem? (i := 51) rfl)) : Laid Z a0 "com/example/lintel/lintel/io/CsvReader" "com/example/lintel/lintel/io/CsvReader" "row" "I") (by decide) (t := (.array .int)) (by decide) (t' := .int) (by decide))), f4.other W (Or.inr (slot_ne (Or.inl (hw _ (List.mem_of_getElem? (i := 21) rfl)) : Laid Z a0 "com/example/lintel/lintel/io/CsvReader" "com/example/lintel/lintel/io/CsvReader" "doubledQuotes" "[Z") (Or.inl (hw _ (List.mem_of_getElem? (i := 51) rfl)) : Laid Z a0 "com/example/lintel/lintel/io/CsvReader" "com/example/lintel/lintel/io/CsvReader" "row" "I") (by decide) (t := (.array .boolean)) (by decide) (t' := .int) (by decide))), f5.other W (Or.inr (slot_ne (Or.inl (hw _ (List.mem_of_getElem? (i := 44) rfl)) : Laid Z a0 "com/example/lintel/lintel/io/CsvReader" "com/example/lintel/lintel/io/CsvReader" "at" "I") (Or.inl (hw _ (List.mem_of_getElem? (i := 51) rfl)) : Laid Z a0 "com/example/lintel/lintel/io/CsvReader" "com/example/lintel/lintel/io/CsvReader" "row" "I") (by decide) (t := .int) (by decide) (t' := .int) (by decide))), f6.same W, f7.other W (Or.inr (slot_ne (Or.inl (hw _ (List.mem_of_getElem? (i := 63) rfl)) : Laid Z a0 "com/example/lintel/lintel/io/CsvReader" "com/example/lintel/lintel/io/CsvReader" "bytesOr" "I") (Or.inl (hw _ (List.mem_of_getElem? (i := 51) rfl)) : Laid Z a0 "com/example/lintel/lintel/io/CsvReader" "com/example/lintel/lintel/io/CsvReader" "row" "I") (by decide) (t := .int) (by decide) (t' := .int) (by decide))), f8.other W (Or.inr (slot_ne (Or.inl (hw _ (List.mem_of_getElem? (i := 53) rfl)) : Laid Z a0 "com/example/lintel/lintel/io/CsvReader" "com/example/lintel/lintel/io/CsvReader" "size" "I") (Or.inl (hw _ (List.mem_of_getElem? (i := 51) rfl)) : Laid Z a0 "com/example/lintel/lintel/io/CsvReader" "com/example/lintel/lintel/io/CsvReader" "row" "I") (by decide) (t := .int) (by decide) (t' := .int) (by decide)))⟩
theorem RO.set_bytesOr {Z : State} {a0 : Array Value} (hw : ∀ d ∈ tables_1, d.before a0 Z = true) {h h' : Heap} {a tx sa ea da : Addr} {av rv bo sz v : Int32} (F : RO Z h a tx sa ea da av rv bo sz) (W : Wr h h' a (Jvm.RoadKit.slotOf Z "com/example/lintel/lintel/io/CsvReader" "bytesOr" "I") (.int v)) : RO Z h' a tx sa ea da av rv v sz := by
  obtain ⟨A, f0, f1, f2, f3, f4, f5, f6, f7, f8⟩ := F
  exact ⟨A.wr W, f0.other W (Or.inr (slot_ne (Or.inr (hw _ (List.mem_of_getElem? (i := 23) rfl)) : Laid Z a0 "com/example/lintel/lintel/io/CsvReader" "com/example/lintel/lintel/io/CsvReader" "text" "[B") (Or.inl (hw _ (List.mem_of_getElem? (i := 63) rfl)) : Laid Z a0 "com/example/lintel/lintel/io/CsvReader" "com/example/lintel/lintel/io/CsvReader" "bytesOr" "I") (by decide) (t := (.array .byte)) (by decide) (t' := .int) (by decide))), f1.other W (Or.inr (slot_ne (Or.inr (hw _ (List.mem_of_getElem? (i := 25) rfl)) : Laid Z a0 "com/example/lintel/lintel/io/CsvReader" "com/example/lintel/lintel/io/CsvReader" "length" "I") (Or.inl (hw _ (List.mem_of_getElem? (i := 63) rfl)) : Laid Z a0 "com/example/lintel/lintel/io/CsvReader" "com/example/lintel/lintel/io/CsvReader" "bytesOr" "I") (by decide) (t := .int) (by decide) (t' := .int) (by decide))), f2.other W (Or.inr (slot_ne (Or.inl (hw _ (List.mem_of_getElem? (i := 16) rfl)) : Laid Z a0 "com/example/lintel/lintel/io/CsvReader" "com/example/lintel/lintel/io/CsvReader" "starts" "[I") (Or.inl (hw _ (List.mem_of_getElem? (i := 63) rfl)) : Laid Z a0 "com/example/lintel/lintel/io/CsvReader" "com/example/lintel/lintel/io/CsvReader" "bytesOr" "I") (by decide) (t := (.array .int)) (by decide) (t' := .int) (by decide))), f3.other W (Or.inr (slot_ne (Or.inl (hw _ (List.mem_of_getElem? (i := 18) rfl)) : Laid Z a0 "com/example/lintel/lintel/io/CsvReader" "com/example/lintel/lintel/io/CsvReader" "ends" "[I") (Or.inl (hw _ (List.mem_of_getElem? (i := 63) rfl)) : Laid Z a0 "com/example/lintel/lintel/io/CsvReader" "com/example/lintel/lintel/io/CsvReader" "bytesOr" "I") (by decide) (t := (.array .int)) (by decide) (t' := .int) (by decide))), f4.other W (Or.inr (slot_ne (Or.inl (hw _ (List.mem_of_getElem? (i := 21) rfl)) : Laid Z a0 "com/example/lintel/lintel/io/CsvReader" "com/example/lintel/lintel/io/CsvReader" "doubledQuotes" "[Z") (Or.inl (hw _ (List.mem_of_getElem? (i := 63) rfl)) : Laid Z a0 "com/example/lintel/lintel/io/CsvReader" "com/example/lintel/lintel/io/CsvReader" "bytesOr" "I") (by decide) (t := (.array .boolean)) (by decide) (t' := .int) (by decide))), f5.other W (Or.inr (slot_ne (Or.inl (hw _ (List.mem_of_getElem? (i := 44) rfl)) : Laid Z a0 "com/example/lintel/lintel/io/CsvReader" "com/example/lintel/lintel/io/CsvReader" "at" "I") (Or.inl (hw _ (List.mem_of_getElem? (i := 63) rfl)) : Laid Z a0 "com/example/lintel/lintel/io/CsvReader" "com/example/lintel/lintel/io/CsvReader" "bytesOr" "I") (by decide) (t := .int) (by decide) (t' := .int) (by decide))), f6.other W (Or.inr (slot_ne (Or.inl (hw _ (List.mem_of_getElem? (i := 51) rfl)) : Laid Z a0 "com/example/lintel/lintel/io/CsvReader" "com/example/lintel/lintel/io/CsvReader" "row" "I") (Or.inl (hw _ (List.mem_of_getElem? (i := 63) rfl)) : Laid Z a0 "com/example/lintel/lintel/io/CsvReader" "com/example/lintel/lintel/io/CsvReader" "bytesOr" "I") (by decide) (t := .int) (by decide) (t' := .int) (by decide))), f7.same W, f8.other W (Or.inr (slot_ne (Or.inl (hw _ (List.mem_of_getElem? (i := 53) rfl)) : Laid Z a0 "com/example/lintel/lintel/io/CsvReader" "com/example/lintel/lintel/io/CsvReader" "size" "I") (Or.inl (hw _ (List.mem_of_getElem? (i := 63) rfl)) : Laid Z a0 "com/example/lintel/lintel/io/CsvReader" "com/example/lintel/lintel/io/CsvReader" "bytesOr" "I") (by decide) (t := .int) (by decide) (t' := .int) (by decide)))⟩
theorem RO.set_size {Z : State} {a0 : Array Value} (hw : ∀ d ∈ tables_1, d.before a0 Z = true) {h h' : Heap} {a tx sa ea da : Addr} {av rv bo sz v : Int32} (F : RO Z h a tx sa ea da av rv bo sz) (W : Wr h h' a (Jvm.RoadKit.slotOf Z "com/example/lintel/lintel/io/CsvReader" "size" "I") (.int v)) : RO Z h' a tx sa ea da av rv bo v := by
  obtain ⟨A, f0, f1, f2, f3, f4, f5, f6, f7, f8⟩ := F
  exact ⟨A.wr W, f0.other W (Or.inr (slot_ne (Or.inr (hw _ (List.mem_of_getElem? (i := 23) rfl)) : Laid Z a0 "com/example/lintel/lintel/io/CsvReader" "com/example/lintel/lintel/io/CsvReader" "text" "[B") (Or.inl (hw _ (List.mem_of_getElem? (i := 53) rfl)) : Laid Z a0 "com/example/lintel/lintel/io/CsvReader" "com/example/lintel/lintel/io/CsvReader" "size" "I") (by decide) (t := (.array .byte)) (by decide) (t' := .int) (by decide))), f1.other W (Or.inr (slot_ne (Or.inr (hw _ (List.mem_of_getElem? (i := 25) rfl)) : Laid Z a0 "com/example/lintel/lintel/io/CsvReader" "com/example/lintel/lintel/io/CsvReader" "length" "I") (Or.inl (hw _ (List.mem_of_getElem? (i := 53) rfl)) : Laid Z a0 "com/example/lintel/lintel/io/CsvReader" "com/example/lintel/lintel/io/CsvReader" "size" "I") (by decide) (t := .int) (by decide) (t' := .int) (by decide))), f2.other W (Or.inr (slot_ne (Or.inl (hw _ (List.mem_of_getElem? (i := 16) rfl)) : Laid Z a0 "com/example/lintel/lintel/io/CsvReader" "com/example/lintel/lintel/io/CsvReader" "starts" "[I") (Or.inl (hw _ (List.mem_of_getElem? (i := 53) rfl)) : Laid Z a0 "com/example/lintel/lintel/io/CsvReader" "com/example/lintel/lintel/io/CsvReader" "size" "I") (by decide) (t := (.array .int)) (by decide) (t' := .int) (by decide))), f3.other W (Or.inr (slot_ne (Or.inl (hw _ (List.mem_of_getElem? (i := 18) rfl)) : Laid Z a0 "com/example/lintel/lintel/io/CsvReader" "com/example/lintel/lintel/io/CsvReader" "ends" "[I") (Or.inl (hw _ (List.mem_of_getElem? (i := 53) rfl)) : Laid Z a0 "com/example/lintel/lintel/io/CsvReader" "com/example/lintel/lintel/io/CsvReader" "size" "I") (by decide) (t := (.array .int)) (by decide) (t' := .int) (by decide))), f4.other W (Or.inr (slot_ne (Or.inl (hw _ (List.mem_of_getElem? (i := 21) rfl)) : Laid Z a0 "com/example/lintel/lintel/io/CsvReader" "com/example/lintel/lintel/io/CsvReader" "doubledQuotes" "[Z") (Or.inl (hw _ (List.mem_of_getElem? (i := 53) rfl)) : Laid Z a0 "com/example/lintel/lintel/io/CsvReader" "com/example/lintel/lintel/io/CsvReader" "size" "I") (by decide) (t := (.array .boolean)) (by decide) (t' := .int) (by decide))), f5.other W (Or.inr (slot_ne (Or.inl (hw _ (List.mem_of_getElem? (i := 44) rfl)) : Laid Z a0 "com/example/lintel/lintel/io/CsvReader" "com/example/lintel/lintel/io/CsvReader" "at" "I") (Or.inl (hw _ (List.mem_of_getElem? (i := 53) rfl)) : Laid Z a0 "com/example/lintel/lintel/io/CsvReader" "com/example/lintel/lintel/io/CsvReader" "size" "I") (by decide) (t := .int) (by decide) (t' := .int) (by decide))), f6.other W (Or.inr (slot_ne (Or.inl (hw _ (List.mem_of_getElem? (i := 51) rfl)) : Laid Z a0 "com/example/lintel/lintel/io/CsvReader" "com/example/lintel/lintel/io/CsvReader" "row" "I") (Or.inl (hw _ (List.mem_of_getElem? (i := 53) rfl)) : Laid Z a0 "com/example/lintel/lintel/io/CsvReader" "com/example/lintel/lintel/io/CsvReader" "size" "I") (by decide) (t := .int) (by decide) (t' := .int) (by decide))), f7.other W (Or.inr (slot_ne (Or.inl (hw _ (List.mem_of_getElem? (i := 63) rfl)) : Laid Z a0 "com/example/lintel/lintel/io/CsvReader" "com/example/lintel/lintel/io/CsvReader" "bytesOr" "I") (Or.inl (hw _ (List.mem_of_getElem? (i := 53) rfl)) : Laid Z a0 "com/example/lintel/lintel/io/CsvReader" "com/example/lintel/lintel/io/CsvReader" "size" "I") (by decide) (t := .int) (by decide) (t' := .int) (by decide))), f8.same W⟩
theorem RO.exa {Z : State} {h : Heap} {a tx sa ea da : Addr} {av rv bo sz : Int32} (F : RO Z h a tx sa ea da av rv bo sz) : Exa Z h a "com/example/lintel/lintel/io/CsvReader" := F.1
theorem RO.f_text {Z : State} {h : Heap} {a tx sa ea da : Addr} {av rv bo sz : Int32} (F : RO Z h a tx sa ea da av rv bo sz) : Fld Z h a "com/example/lintel/lintel/io/CsvReader" "text" "[B" (.ref tx) := F.2.1
theorem RO.f_length {Z : State} {h : Heap} {a tx sa ea da : Addr} {av rv bo sz : Int32} (F : RO Z h a tx sa ea da av rv bo sz) : Fld Z h a "com/example/lintel/lintel/io/CsvReader" "length" "I" (.int 32) := F.2.2.1
theorem RO.f_starts {Z : State} {h : Heap} {a tx sa ea da : Addr} {av rv bo sz : Int32} (F : RO Z h a tx sa ea da av rv bo sz) : Fld Z h a "com/example/lintel/lintel/io/CsvReader" "starts" "[I" (.ref sa) := F.2.2.2.1
theorem RO.f_ends {Z : State} {h : Heap} {a tx sa ea da : Addr} {av rv bo sz : Int32} (F : RO Z h a tx sa ea da av rv bo sz) : Fld Z h a "com/example/lintel/lintel/io/CsvReader" "ends" "[I" (.ref ea) := F.2.2.2.2.1
theorem RO.f_doubledQuotes {Z : State} {h : Heap} {a tx sa ea da : Addr} {av rv bo sz : Int32} (F : RO Z h a tx sa ea da av rv bo sz) : Fld Z h a "com/example/lintel/lintel/io/CsvReader" "doubledQuotes" "[Z" (.ref da) := F.2.2.2.2.2.1
theorem RO.f_at {Z : State} {h : Heap} {a tx sa ea da : Addr} {av rv bo sz : Int32} (F : RO Z h a tx sa ea da av rv bo sz) : Fld Z h a "com/example/lintel/lintel/io/CsvReader" "at" "I" (.int av) := F.2.2.2.2.2.2.1
theorem RO.f_row {Z : State} {h : Heap} {a tx sa ea da : Addr} {av rv bo sz : Int32} (F : RO Z h a tx sa ea da av rv bo sz) : Fld Z h a "com/example/lintel/lintel/io/CsvReader" "row" "I" (.int rv) := F.2.2.2.2.2.2.2.1
theorem RO.f_bytesOr {Z : State} {h : Heap} {a tx sa ea da : Addr} {av rv bo sz : Int32} (F : RO Z h a tx sa ea da av rv bo sz) : Fld Z h a "com/example/lintel/lintel/io/CsvReader" "bytesOr" "I" (.int bo) := F.2.2.2.2.2.2.2.2.1
theorem RO.f_size {Z : State} {h : Heap} {a tx sa ea da : Addr} {av rv bo sz : Int32} (F : RO Z h a tx sa ea da av rv bo sz) : Fld Z h a "com/example/lintel/lintel/io/CsvReader" "size" "I" (.int sz) := F.2.2.2.2.2.2.2.2.2
/-- the arrays of the reader, where they lie and what they hold -/
def RA (Z : State) (h : Heap) (tx sa ea da : Addr) (kt ks ke kd : ClassId) (t st en dq : List Int32) : Prop := AL Z h tx kt .byte (t.map .int) ∧ AL Z h sa ks .int (st.map .int) ∧ AL Z h ea ke .int (en.map .int) ∧ AL Z h da kd .boolean (dq.map .int) ∧ t.length = 32 ∧ st.length = 64 ∧ en.length = 64 ∧ dq.length = 64
def Dis (n1 : Nat) (a tx sa ea da : Addr) : Prop := (a ≠ tx ∧ a ≠ sa ∧ a ≠ ea ∧ a ≠ da ∧ tx ≠ sa ∧ tx ≠ ea ∧ tx ≠ da ∧ sa ≠ ea ∧ sa ≠ da ∧ ea ≠ da) ∧ n1 ≤ a ∧ n1 ≤ sa ∧ n1 ≤ ea ∧ n1 ≤ da
theorem RA.ext {Z : State} {h h' : Heap} {tx sa ea da : Addr} {kt ks ke kd : ClassId} {t st en dq : List Int32} (F : RA Z h tx sa ea da kt ks ke kd t st en dq) (E : Ext h h') : RA Z h' tx sa ea da kt ks ke kd t st en dq := by obtain ⟨h1, h2, h3, h4, r⟩ := F; exact ⟨h1.ext E, h2.ext E, h3.ext E, h4.ext E, r⟩
theorem RA.other {Z : State} {h h' : Heap} {tx sa ea da x : Addr} {kt ks ke kd : ClassId} {t st en dq : List Int32} {sl : Nat} {v : Value} (F : RA Z h tx sa ea da kt ks ke kd t st en dq) (W : Wr h h' x sl v) (h1 : tx ≠ x) (h2 : sa ≠ x) (h3 : ea ≠ x) (h4 : da ≠ x) : RA Z h' tx sa ea da kt ks ke kd t st en dq := by obtain ⟨k1, k2, k3, k4, r⟩ := F; exact ⟨k1.other W h1, k2.other W h2, k3.other W h3, k4.other W h4, r⟩
theorem map_get {cs : List Int32} {i : Nat} {n : Int32} (q : cs[i]? = some n) : (cs.map Value.int)[i]? = some (.int n) := by rw [List.getElem?_map, q]; rfl
theorem map_set' (cs : List Int32) (i : Nat) (n : Int32) : (cs.map Value.int).set i (.int n) = (cs.set i n).map Value.int := by rw [List.map_set]
theorem get_of {t : List Int32} {i : Nat} (h : i < t.length) : ∃ b, t[i]? = some b := ⟨_, List.getElem?_eq_getElem h⟩
set_option maxRecDepth 65536 in
set_option maxHeartbeats 40000000 in
theorem rm_min (l : Launch) (Z : State) (a0 : Array Value) (hw : ∀ d ∈ tables_1, d.before a0 Z = true) (h0 : Heap) (n0 : Nat) (x z r : Int32) (hr : r = if z < x then z else x) :
    Met l Z (⟨"java/lang/Math", "min", "(II)I"⟩ : MethodName) jdk_29_method_69_code 2 (some .int) ({ frames := 0, cells := 0, slots := 0, locals := 0 } : Room) n0 #[(.int x), (.int z)] h0 (fun v h => v = some (.int r) ∧ h0 = h) := by
  refine Met.intro (by decide +kernel) ?_
  intro p e s m below meth cc T0 P0
  refine Go.cast (g' := mkF m 0 #[.val (.int x), .val (.int z)] []) (by first | (simp [entryFrame, mkF, argsToLocals, Value.category, maxLocals]; done) | rfl) ?_
  refine g_iloadN P0 d4_0 rfl ?_
  refine g_iloadN P0 d4_1 rfl ?_
  by_cases hc2 : z < x
  · refine g_icmpYes P0 d4_2 (tlt hc2).2.2.1 9 (by decide) (by decide) ?_
    refine g_iloadN P0 d4_9 rfl ?_
    exact g_retI P0 d4_10 (by decide) (by decide) ⟨by rw [hr, if_pos hc2], rfl⟩
  · refine g_icmpNo P0 d4_2 (flt hc2).2.2.1 ?_
    refine g_iloadN P0 d4_5 rfl ?_
    refine g_goto P0 d4_6 10 (by decide) (by decide) ?_
    exact g_retI P0 d4_10 (by decide) (by decide) ⟨by rw [hr, if_neg hc2], rfl⟩
set_option maxRecDepth 65536 in
set_option maxHeartbeats 40000000 in
theorem rm_plainEnd (l : Launch) (Z : State) (a0 : Array Value) (hw : ∀ d ∈ tables_1, d.before a0 Z = true) (h0 : Heap) (n0 : Nat) (n1 : Nat) (a tx sa ea da : Addr) (kt ks ke kd : ClassId) (t st en dq : List Int32) (rv bo : Int32) (av sv : Int32) (i0 : Nat) (g10 : n0 ≤ n1) (ROh : RO Z h0 a tx sa ea da av rv bo sv) (RAh : RA Z h0 tx sa ea da kt ks ke kd t st en dq) (hB : AllB t) (D1 : Dis n1 a tx sa ea da) (hbo : ¬ bo < 0) (h32 : i0 ≤ 32) :
    Met l Z (⟨"com/example/lintel/lintel/io/CsvReader", "plainEnd", "(I)I"⟩ : MethodName) prog_1_method_12_code 7 (some .int) ({ frames := 0, cells := 0, slots := 0, locals := 0 } : Room) n0 #[(.ref a), (.int (iN i0))] h0 (fun v h => ∃ j bo', v = some (.int (iN j)) ∧ FS t 32 i0 j ∧ ¬ bo' < 0 ∧ RO Z h a tx sa ea da av rv bo' sv ∧ RA Z h tx sa ea da kt ks ke kd t st en dq ∧ Below n1 h0 h) := by
  refine Met.intro (by decide +kernel) ?_
  intro p e s m below meth cc T0 P0
  refine Go.cast (g' := mkF m 0 #[.val (.ref a), .val (.int (iN i0)), .unset, .unset, .unset, .unset, .unset] []) (by first | (simp [entryFrame, mkF, argsToLocals, Value.category, maxLocals]; done) | rfl) ?_
  have D12 := D1.2
  obtain ⟨AT, AS, AE, AD, lt, ls, le, ld⟩ := RAh
  have F := ROh
  refine g_aloadN P0 d10_0 rfl rfl ?_
  refine g_getF (host := "") P0 d10_1 (Or.inl (hw _ (List.mem_of_getElem? (i := 22) rfl))) Via.refl F.f_text fun T1 P1 => ?_
  refine g_astoreN P1 d10_4 rfl #[.val (.ref a), .val (.int (iN i0)), .val (.ref tx), .unset, .unset, .unset, .unset] rfl ?_
  refine g_aloadN P1 d10_5 rfl rfl ?_
  refine g_getF (host := "") P1 d10_6 (Or.inl (hw _ (List.mem_of_getElem? (i := 24) rfl))) Via.refl F.f_length fun T2 P2 => ?_
  refine g_istoreN P2 d10_9 #[.val (.ref a), .val (.int (iN i0)), .val (.ref tx), .val (.int (32 : Int32)), .unset, .unset, .unset] rfl ?_
  refine g_iconst (v := (0 : Int32)) P2 d10_10 (by rfl) ?_
  refine g_istore P2 d10_11 #[.val (.ref a), .val (.int (iN i0)), .val (.ref tx), .val (.int (32 : Int32)), .val (.int (0 : Int32)), .unset, .unset] rfl ?_
  refine g_iloadN P2 d10_13 rfl ?_
  refine g_istore P2 d10_14 #[.val (.ref a), .val (.int (iN i0)), .val (.ref tx), .val (.int (32 : Int32)), .val (.int (0 : Int32)), .val (.int (iN i0)), .unset] rfl ?_
  have exit : ∀ (j : Nat) (orr : Int32) (o6 : Slot) , ¬ orr < 0 → FS t 32 i0 j → Go p e below (Done s ({ frames := 0, cells := 0, slots := 0, locals := 0 } : Room) n0 (fun v h => ∃ j bo', v = some (.int (iN j)) ∧ FS t 32 i0 j ∧ ¬ bo' < 0 ∧ RO Z h a tx sa ea da av rv bo' sv ∧ RA Z h tx sa ea da kt ks ke kd t st en dq ∧ Below n1 h0 h)) (T2.setTop (mkF m 72 #[.val (.ref a), .val (.int (iN i0)), .val (.ref tx), .val (.int (32 : Int32)), .val (.int orr), .val (.int (iN j)), o6] [])) := by
    intro j orr o6 hn hj
    refine g_aloadN P2 d10_72 rfl rfl ?_
    refine g_dup P2 d10_73 rfl ?_
    refine g_getF (host := "") P2 d10_74 (Or.inl (hw _ (List.mem_of_getElem? (i := 62) rfl))) Via.refl F.f_bytesOr fun T3 P3 => ?_
    refine g_iload P3 d10_77 rfl ?_
    refine g_ior (v := (bo ||| orr)) P3 d10_79 rfl ?_
    refine g_putF (host := "") P3 d10_80 (Or.inl (hw _ (List.mem_of_getElem? (i := 62) rfl))) Via.refl F.f_bytesOr F.exa (Or.inl (hw _ (List.mem_of_getElem? (i := 63) rfl))) (hw _ (List.mem_of_getElem? (i := 7) rfl)) (ty := .int) (by decide) rfl rfl (by omega) fun T4 h4 P4 W4 => ?_
    refine g_iload P4 d10_83 rfl ?_
    exact g_retI P4 d10_85 (by decide) (by decide) ⟨j, _, rfl, hj, or_nn hbo hn, F.set_bytesOr hw W4, RA.other ⟨AT, AS, AE, AD, lt, ls, le, ld⟩ W4 (Ne.symm D1.1.1) (Ne.symm D1.1.2.1) (Ne.symm D1.1.2.2.1) (Ne.symm D1.1.2.2.2.1), Below.refl.wr W4 D1.2.1⟩
  have loop : ∀ (n i : Nat) (orr : Int32) (o6 : Slot) , i + n = 32 → i0 ≤ i → (o6 = .unset ∨ ∃ w, o6 = .val (.int w)) → ¬ orr < 0 → (∀ x b, i0 ≤ x → x < i → t[x]? = some b → ¬ Stp b) → Go p e below (Done s ({ frames := 0, cells := 0, slots := 0, locals := 0 } : Room) n0 (fun v h => ∃ j bo', v = some (.int (iN j)) ∧ FS t 32 i0 j ∧ ¬ bo' < 0 ∧ RO Z h a tx sa ea da av rv bo' sv ∧ RA Z h tx sa ea da kt ks ke kd t st en dq ∧ Below n1 h0 h)) (T2.setTop (mkF m 16 #[.val (.ref a), .val (.int (iN i0)), .val (.ref tx), .val (.int (32 : Int32)), .val (.int orr), .val (.int (iN i)), o6] [])) := by
    intro n
    induction n with
    | zero =>
      intro i orr o6 hi hle ho hn hinv
      refine g_iload P2 d10_16 rfl ?_
      refine g_iloadN P2 d10_18 rfl ?_
      refine g_icmpYes P2 d10_19 (flt (fun q => by have := (iN_lt (a := i) (b := 32) (by omega) (by omega)).mp q; omega)).2.1 72 (by decide) (by decide) ?_
      exact exit i orr o6 hn ⟨hle, by omega, hinv, Or.inl (by omega)⟩
    | succ n ih =>
      intro i orr o6 hi hle ho hn hinv
      refine g_iload P2 d10_16 rfl ?_
      refine g_iloadN P2 d10_18 rfl ?_
      refine g_icmpNo P2 d10_19 (tlt ((iN_lt (a := i) (b := 32) (by omega) (by omega)).mpr (by omega))).2.1 ?_
      refine g_aloadN P2 d10_22 rfl rfl ?_
      refine g_iload P2 d10_23 rfl ?_
      obtain ⟨b, hb⟩ := get_of (t := t) (i := i) (by omega)
      refine g_baload (i := i) (v := (.int b)) P2 d10_25 AT (ix_iN (by omega)) (map_get hb) ?_
      refine g_istore P2 d10_26 #[.val (.ref a), .val (.int (iN i0)), .val (.ref tx), .val (.int (32 : Int32)), .val (.int orr), .val (.int (iN i)), .val (.int b)] (by rcases ho with rfl | ⟨w, rfl⟩ <;> rfl) ?_
      refine g_iload P2 d10_28 rfl ?_
      refine g_bipush (v := (44 : Int32)) P2 d10_30 (by rfl) ?_
      by_cases hs44 : b = (44 : Int32)
      · refine g_icmpYes P2 d10_32 (teq hs44).1 72 (by decide) (by decide) ?_
        exact exit i orr _ hn ⟨hle, by omega, hinv, Or.inr ⟨b, hb, Or.inl hs44⟩⟩
      · refine g_icmpNo P2 d10_32 (feq hs44).1 ?_
        refine g_iload P2 d10_35 rfl ?_
        refine g_bipush (v := (10 : Int32)) P2 d10_37 (by rfl) ?_
        by_cases hs10 : b = (10 : Int32)
        · refine g_icmpYes P2 d10_39 (teq hs10).1 72 (by decide) (by decide) ?_
          exact exit i orr _ hn ⟨hle, by omega, hinv, Or.inr ⟨b, hb, Or.inr (Or.inl hs10)⟩⟩
        · refine g_icmpNo P2 d10_39 (feq hs10).1 ?_
          refine g_iload P2 d10_42 rfl ?_
          refine g_bipush (v := (13 : Int32)) P2 d10_44 (by rfl) ?_
          by_cases hs13 : b = (13 : Int32)
          · refine g_icmpYes P2 d10_46 (teq hs13).1 72 (by decide) (by decide) ?_
            exact exit i orr _ hn ⟨hle, by omega, hinv, Or.inr ⟨b, hb, Or.inr (Or.inr (Or.inl hs13))⟩⟩
          · refine g_icmpNo P2 d10_46 (feq hs13).1 ?_
            refine g_iload P2 d10_49 rfl ?_
            refine g_bipush (v := (34 : Int32)) P2 d10_51 (by rfl) ?_
            by_cases hs34 : b = (34 : Int32)
            · refine g_icmpNo P2 d10_53 (teq hs34).2 ?_
              refine g_goto P2 d10_56 72 (by decide) (by decide) ?_
              exact exit i orr _ hn ⟨hle, by omega, hinv, Or.inr ⟨b, hb, Or.inr (Or.inr (Or.inr hs34))⟩⟩
            · refine g_icmpYes P2 d10_53 (feq hs34).2 59 (by decide) (by decide) ?_
              refine g_iload P2 d10_59 rfl ?_
              refine g_iload P2 d10_61 rfl ?_
              refine g_ior (v := (orr ||| b)) P2 d10_63 rfl ?_
              refine g_istore P2 d10_64 #[.val (.ref a), .val (.int (iN i0)), .val (.ref tx), .val (.int (32 : Int32)), .val (.int (orr ||| b)), .val (.int (iN i)), .val (.int b)] rfl ?_
              refine g_iinc (w := (iN (i + 1))) P2 d10_66 rfl (iN_inc _) #[.val (.ref a), .val (.int (iN i0)), .val (.ref tx), .val (.int (32 : Int32)), .val (.int (orr ||| b)), .val (.int (iN (i + 1))), .val (.int b)] rfl ?_
              refine g_goto P2 d10_69 16 (by decide) (by decide) ?_
              refine ih (i + 1) _ _ (by omega) (by omega) (Or.inr ⟨_, rfl⟩) (or_nn hn (nn_of (hB i b hb))) fun x c h1 h2 h3 => ?_
              by_cases hx : x = i
              · subst hx; rw [hb] at h3; cases h3; rintro (q | q | q | q)
                · exact hs44 q
                · exact hs10 q
                · exact hs13 q
                · exact hs34 q
              · exact hinv x c h1 (by omega) h3
  exact loop (32 - i0) i0 0 _ (by omega) (Nat.le_refl _) (Or.inl rfl) (by decide) (fun x c h1 h2 => by omega)
set_option maxRecDepth 65536 in
set_option maxHeartbeats 40000000 in
theorem rm_quoteAt (l : Launch) (Z : State) (a0 : Array Value) (hw : ∀ d ∈ tables_1, d.before a0 Z = true) (h0 : Heap) (n0 : Nat) (n1 : Nat) (a tx sa ea da : Addr) (kt ks ke kd : ClassId) (t st en dq : List Int32) (rv bo : Int32) (av sv : Int32) (i0 : Nat) (g10 : n0 ≤ n1) (ROh : RO Z h0 a tx sa ea da av rv bo sv) (RAh : RA Z h0 tx sa ea da kt ks ke kd t st en dq) (hB : AllB t) (D1 : Dis n1 a tx sa ea da) (hbo : ¬ bo < 0) (h32 : i0 ≤ 32) :
    Met l Z (⟨"com/example/lintel/lintel/io/CsvReader", "quoteAt", "(I)I"⟩ : MethodName) prog_1_method_13_code 6 (some .int) ({ frames := 0, cells := 0, slots := 0, locals := 0 } : Room) n0 #[(.ref a), (.int (iN i0))] h0 (fun v h => ∃ j bo', v = some (.int (iN j)) ∧ FQ t 32 i0 j ∧ ¬ bo' < 0 ∧ RO Z h a tx sa ea da av rv bo' sv ∧ RA Z h tx sa ea da kt ks ke kd t st en dq ∧ Below n1 h0 h) := by
  refine Met.intro (by decide +kernel) ?_
  intro p e s m below meth cc T0 P0
  refine Go.cast (g' := mkF m 0 #[.val (.ref a), .val (.int (iN i0)), .unset, .unset, .unset, .unset] []) (by first | (simp [entryFrame, mkF, argsToLocals, Value.category, maxLocals]; done) | rfl) ?_
  have D12 := D1.2
  obtain ⟨AT, AS, AE, AD, lt, ls, le, ld⟩ := RAh
  have F := ROh
  refine g_aloadN P0 d16_0 rfl rfl ?_
  refine g_getF (host := "") P0 d16_1 (Or.inl (hw _ (List.mem_of_getElem? (i := 22) rfl))) Via.refl F.f_text fun T5 P5 => ?_
  refine g_astoreN P5 d16_4 rfl #[.val (.ref a), .val (.int (iN i0)), .val (.ref tx), .unset, .unset, .unset] rfl ?_
  refine g_aloadN P5 d16_5 rfl rfl ?_
  refine g_getF (host := "") P5 d16_6 (Or.inl (hw _ (List.mem_of_getElem? (i := 24) rfl))) Via.refl F.f_length fun T6 P6 => ?_
  refine g_istoreN P6 d16_9 #[.val (.ref a), .val (.int (iN i0)), .val (.ref tx), .val (.int (32 : Int32)), .unset, .unset] rfl ?_
  refine g_iconst (v := (0 : Int32)) P6 d16_10 (by rfl) ?_
  refine g_istore P6 d16_11 #[.val (.ref a), .val (.int (iN i0)), .val (.ref tx), .val (.int (32 : Int32)), .val (.int (0 : Int32)), .unset] rfl ?_
  refine g_iloadN P6 d16_13 rfl ?_
  refine g_istore P6 d16_14 #[.val (.ref a), .val (.int (iN i0)), .val (.ref tx), .val (.int (32 : Int32)), .val (.int (0 : Int32)), .val (.int (iN i0))] rfl ?_
  have exit : ∀ (j : Nat) (orr : Int32) , ¬ orr < 0 → FQ t 32 i0 j → Go p e below (Done s ({ frames := 0, cells := 0, slots := 0, locals := 0 } : Room) n0 (fun v h => ∃ j bo', v = some (.int (iN j)) ∧ FQ t 32 i0 j ∧ ¬ bo' < 0 ∧ RO Z h a tx sa ea da av rv bo' sv ∧ RA Z h tx sa ea da kt ks ke kd t st en dq ∧ Below n1 h0 h)) (T6.setTop (mkF m 46 #[.val (.ref a), .val (.int (iN i0)), .val (.ref tx), .val (.int (32 : Int32)), .val (.int orr), .val (.int (iN j))] [])) := by
    intro j orr hn hj
    refine g_aloadN P6 d16_46 rfl rfl ?_
    refine g_dup P6 d16_47 rfl ?_
    refine g_getF (host := "") P6 d16_48 (Or.inl (hw _ (List.mem_of_getElem? (i := 62) rfl))) Via.refl F.f_bytesOr fun T7 P7 => ?_
    refine g_iload P7 d16_51 rfl ?_
    refine g_ior (v := (bo ||| orr)) P7 d16_53 rfl ?_
    refine g_putF (host := "") P7 d16_54 (Or.inl (hw _ (List.mem_of_getElem? (i := 62) rfl))) Via.refl F.f_bytesOr F.exa (Or.inl (hw _ (List.mem_of_getElem? (i := 63) rfl))) (hw _ (List.mem_of_getElem? (i := 7) rfl)) (ty := .int) (by decide) rfl rfl (by omega) fun T8 h8 P8 W8 => ?_
    refine g_iload P8 d16_57 rfl ?_
    exact g_retI P8 d16_59 (by decide) (by decide) ⟨j, _, rfl, hj, or_nn hbo hn, F.set_bytesOr hw W8, RA.other ⟨AT, AS, AE, AD, lt, ls, le, ld⟩ W8 (Ne.symm D1.1.1) (Ne.symm D1.1.2.1) (Ne.symm D1.1.2.2.1) (Ne.symm D1.1.2.2.2.1), Below.refl.wr W8 D1.2.1⟩
  have loop : ∀ (n i : Nat) (orr : Int32) , i + n = 32 → i0 ≤ i → ¬ orr < 0 → (∀ x, i0 ≤ x → x < i → t[x]? ≠ some 34) → Go p e below (Done s ({ frames := 0, cells := 0, slots := 0, locals := 0 } : Room) n0 (fun v h => ∃ j bo', v = some (.int (iN j)) ∧ FQ t 32 i0 j ∧ ¬ bo' < 0 ∧ RO Z h a tx sa ea da av rv bo' sv ∧ RA Z h tx sa ea da kt ks ke kd t st en dq ∧ Below n1 h0 h)) (T6.setTop (mkF m 16 #[.val (.ref a), .val (.int (iN i0)), .val (.ref tx), .val (.int (32 : Int32)), .val (.int orr), .val (.int (iN i))] [])) := by
    intro n
    induction n with
    | zero =>
      intro i orr hi hle hn hinv
      refine g_iload P6 d16_16 rfl ?_
      refine g_iloadN P6 d16_18 rfl ?_
      refine g_icmpYes P6 d16_19 (flt (fun q => by have := (iN_lt (a := i) (b := 32) (by omega) (by omega)).mp q; omega)).2.1 46 (by decide) (by decide) ?_
      exact exit i orr hn ⟨hle, by omega, hinv, Or.inl (by omega)⟩
    | succ n ih =>
      intro i orr hi hle hn hinv
      refine g_iload P6 d16_16 rfl ?_
      refine g_iloadN P6 d16_18 rfl ?_
      refine g_icmpNo P6 d16_19 (tlt ((iN_lt (a := i) (b := 32) (by omega) (by omega)).mpr (by omega))).2.1 ?_
      refine g_aloadN P6 d16_22 rfl rfl ?_
      refine g_iload P6 d16_23 rfl ?_
      obtain ⟨b, hb⟩ := get_of (t := t) (i := i) (by omega)
      refine g_baload (i := i) (v := (.int b)) P6 d16_25 AT (ix_iN (by omega)) (map_get hb) ?_
      refine g_bipush (v := (34 : Int32)) P6 d16_26 (by rfl) ?_
      by_cases hs34 : b = (34 : Int32)
      · refine g_icmpYes P6 d16_28 (teq hs34).1 46 (by decide) (by decide) ?_
        exact exit i orr hn ⟨hle, by omega, hinv, Or.inr (by rw [hb, hs34])⟩
      · refine g_icmpNo P6 d16_28 (feq hs34).1 ?_
        refine g_iload P6 d16_31 rfl ?_
        refine g_aloadN P6 d16_33 rfl rfl ?_
        refine g_iload P6 d16_34 rfl ?_
        refine g_baload (i := i) (v := (.int b)) P6 d16_36 AT (ix_iN (by omega)) (map_get hb) ?_
        refine g_ior (v := (orr ||| b)) P6 d16_37 rfl ?_
        refine g_istore P6 d16_38 #[.val (.ref a), .val (.int (iN i0)), .val (.ref tx), .val (.int (32 : Int32)), .val (.int (orr ||| b)), .val (.int (iN i))] rfl ?_
        refine g_iinc (w := (iN (i + 1))) P6 d16_40 rfl (iN_inc _) #[.val (.ref a), .val (.int (iN i0)), .val (.ref tx), .val (.int (32 : Int32)), .val (.int (orr ||| b)), .val (.int (iN (i + 1)))] rfl ?_
        refine g_goto P6 d16_43 16 (by decide) (by decide) ?_
        refine ih (i + 1) _ (by omega) (by omega) (or_nn hn (nn_of (hB i b hb))) fun x h1 h2 h3 => ?_
        by_cases hx : x = i
        · subst hx; rw [hb] at h3; cases h3; exact hs34 rfl
        · exact hinv x h1 (by omega) h3
  exact loop (32 - i0) i0 0 (by omega) (Nat.le_refl _) (by decide) (fun x h1 h2 => by omega)
theorem RA.sst {Z : State} {h h' : Heap} {n1 : Nat} {a tx sa ea da : Addr} {kt ks ke kd : ClassId} {t st en dq : List Int32} {i : Nat} {v : Int32} (F : RA Z h tx sa ea da kt ks ke kd t st en dq) (D1 : Dis n1 a tx sa ea da) (W : Wr h h' sa i (.int v)) : RA Z h' tx sa ea da kt ks ke kd t (st.set i v) en dq := by
  obtain ⟨k1, k2, k3, k4, l1, l2, l3, l4⟩ := F
  obtain ⟨⟨d1, d2, d3, d4, d5, d6, d7, d8, d9, d10⟩, -⟩ := D1
  exact ⟨k1.other W d5, by rw [← map_set']; exact k2.set W, k3.other W (Ne.symm d8), k4.other W (Ne.symm d9), l1, by rw [List.length_set]; exact l2, l3, l4⟩
theorem RA.sen {Z : State} {h h' : Heap} {n1 : Nat} {a tx sa ea da : Addr} {kt ks ke kd : ClassId} {t st en dq : List Int32} {i : Nat} {v : Int32} (F : RA Z h tx sa ea da kt ks ke kd t st en dq) (D1 : Dis n1 a tx sa ea da) (W : Wr h h' ea i (.int v)) : RA Z h' tx sa ea da kt ks ke kd t st (en.set i v) dq := by
  obtain ⟨k1, k2, k3, k4, l1, l2, l3, l4⟩ := F
  obtain ⟨⟨d1, d2, d3, d4, d5, d6, d7, d8, d9, d10⟩, -⟩ := D1
  exact ⟨k1.other W d6, k2.other W d8, by rw [← map_set']; exact k3.set W, k4.other W (Ne.symm d10), l1, l2, by rw [List.length_set]; exact l3, l4⟩
theorem RA.sdq {Z : State} {h h' : Heap} {n1 : Nat} {a tx sa ea da : Addr} {kt ks ke kd : ClassId} {t st en dq : List Int32} {i : Nat} {v : Int32} (F : RA Z h tx sa ea da kt ks ke kd t st en dq) (D1 : Dis n1 a tx sa ea da) (W : Wr h h' da i (.int v)) : RA Z h' tx sa ea da kt ks ke kd t st en (dq.set i v) := by
  obtain ⟨k1, k2, k3, k4, l1, l2, l3, l4⟩ := F
  obtain ⟨⟨d1, d2, d3, d4, d5, d6, d7, d8, d9, d10⟩, -⟩ := D1
  exact ⟨k1.other W d7, k2.other W d9, k3.other W d10, by rw [← map_set']; exact k4.set W, l1, l2, l3, by rw [List.length_set]; exact l4⟩
theorem RA.sat {Z : State} {h h' : Heap} {n1 : Nat} {a tx sa ea da : Addr} {kt ks ke kd : ClassId} {t st en dq : List Int32} {sl : Nat} {v : Value} (F : RA Z h tx sa ea da kt ks ke kd t st en dq) (D1 : Dis n1 a tx sa ea da) (W : Wr h h' a sl v) : RA Z h' tx sa ea da kt ks ke kd t st en dq :=
  F.other W (Ne.symm D1.1.1) (Ne.symm D1.1.2.1) (Ne.symm D1.1.2.2.1) (Ne.symm D1.1.2.2.2.1)
theorem lt_some {t : List Int32} {i : Nat} {b : Int32} (h : t[i]? = some b) : i < t.length := (List.getElem?_eq_some_iff.mp h).1
theorem lt32 {i : Nat} (h : i < 32) : iN i < (32 : Int32) := (iN_lt (a := i) (b := 32) (by omega) (by omega)).mpr h
theorem nlt32 {i : Nat} (h : 32 ≤ i) (hi : i < 1000) : ¬ iN i < (32 : Int32) := fun q => by have := (iN_lt (a := i) (b := 32) (by omega) (by omega)).mp q; omega
theorem neN {i k : Nat} (h : i ≠ k) (hi : i < 1000) (hk : k < 1000) : ¬ iN i = iN k := fun q => h ((iN_eq (by omega) (by omega)).mp q)
set_option maxRecDepth 65536 in
set_option maxHeartbeats 40000000 in
theorem rm_plain (l : Launch) (Z : State) (a0 : Array Value) (hw : ∀ d ∈ tables_1, d.before a0 Z = true) (h0 : Heap) (n0 : Nat) (n1 : Nat) (a tx sa ea da : Addr) (kt ks ke kd : ClassId) (t st en dq : List Int32) (rv bo : Int32) (b z e0 : Nat) (g10 : n0 ≤ n1) (F : RO Z h0 a tx sa ea da (iN b) rv bo (iN z)) (A : RA Z h0 tx sa ea da kt ks ke kd t st en dq) (hB : AllB t) (D1 : Dis n1 a tx sa ea da) (hbo : ¬ bo < 0) (hz : z < 64) (he32 : e0 ≤ 32) (hseg : PSeg t b e0) (hend : e0 = 32 ∨ ∃ c, t[e0]? = some c ∧ (c = 44 ∨ c = 10 ∨ (c = 13 ∧ t[e0 + 1]? = some 10))) :
    Met l Z (⟨"com/example/lintel/lintel/io/CsvReader", "plain", "()V"⟩ : MethodName) prog_1_method_11_code 2 none ({ frames := 1, cells := 0, slots := 0, locals := 30 } : Room) n0 #[(.ref a)] h0 (fun v h => v = none ∧ ∃ bo' dq', ¬ bo' < 0 ∧ RO Z h a tx sa ea da (iN e0) rv bo' (iN z) ∧ RA Z h tx sa ea da kt ks ke kd t (st.set z (iN b)) (en.set z (iN e0)) dq' ∧ Below n1 h0 h) := by
  refine Met.intro (by decide +kernel) ?_
  intro p e s m below meth cc T0 P0
  refine Go.cast (g' := mkF m 0 #[.val (.ref a), .unset] []) (by first | (simp [entryFrame, mkF, argsToLocals, Value.category, maxLocals]; done) | rfl) ?_
  have hle := hseg.le
  have B : Below n1 h0 h0 := Below.refl
  have lt := A.2.2.2.2.1
  refine g_aloadN P0 d9_0 rfl rfl ?_
  refine g_getF (host := "") P0 d9_1 (Or.inl (hw _ (List.mem_of_getElem? (i := 15) rfl))) Via.refl F.f_starts fun T9 P9 => ?_
  refine g_aloadN P9 d9_4 rfl rfl ?_
  refine g_getF (host := "") P9 d9_5 (Or.inl (hw _ (List.mem_of_getElem? (i := 52) rfl))) Via.refl F.f_size fun T10 P10 => ?_
  refine g_aloadN P10 d9_8 rfl rfl ?_
  refine g_getF (host := "") P10 d9_9 (Or.inl (hw _ (List.mem_of_getElem? (i := 43) rfl))) Via.refl F.f_at fun T11 P11 => ?_
  refine g_iastore (i := z) P11 d9_12 A.2.1 (ix_iN (by omega)) (by rw [List.length_map]; have := A.2.2.2.2; omega) (by have := D1.2; omega) fun T12 h12 P12 W12 _ => ?_
  have F := F.other W12 D1.1.2.1
  have A := A.sst D1 W12
  have B := B.wr W12 (by have := D1.2; omega)
  refine g_aloadN P12 d9_13 rfl rfl ?_
  refine g_getF (host := "") P12 d9_14 (Or.inl (hw _ (List.mem_of_getElem? (i := 20) rfl))) Via.refl F.f_doubledQuotes fun T13 P13 => ?_
  refine g_aloadN P13 d9_17 rfl rfl ?_
  refine g_getF (host := "") P13 d9_18 (Or.inl (hw _ (List.mem_of_getElem? (i := 52) rfl))) Via.refl F.f_size fun T14 P14 => ?_
  refine g_iconst (v := (0 : Int32)) P14 d9_21 (by rfl) ?_
  refine g_bastoreZ (i := z) (w := 0) P14 d9_22 A.2.2.2.1 (ix_iN (by omega)) (by rw [List.length_map]; have := A.2.2.2.2; omega) (by have := D1.2; omega) (by decide) fun T15 h15 P15 W15 _ => ?_
  have F := F.other W15 D1.1.2.2.2.1
  have A := A.sdq D1 W15
  have B := B.wr W15 (by have := D1.2; omega)
  refine g_aloadN P15 d9_23 rfl rfl ?_
  refine g_aloadN P15 d9_24 rfl rfl ?_
  refine g_getF (host := "") P15 d9_25 (Or.inl (hw _ (List.mem_of_getElem? (i := 43) rfl))) Via.refl F.f_at fun T16 P16 => ?_
  have key : ∀ j, FS t 32 b j → ∀ (T : State) (h : Heap) (bo : Int32) (dq : List Int32), Pl p l e ({ frames := 1, cells := 0, slots := 0, locals := 30 } : Room) s m #[(.ref a)] below meth cc Z (⟨"com/example/lintel/lintel/io/CsvReader", "plain", "()V"⟩ : MethodName) prog_1_method_11_code 2 none n0 T h (0) (0) → ¬ bo < 0 → RO Z h a tx sa ea da (iN b) rv bo (iN z) → RA Z h tx sa ea da kt ks ke kd t (st.set z (iN b)) en dq → Below n1 h0 h → Go p e below (Done s ({ frames := 1, cells := 0, slots := 0, locals := 30 } : Room) n0 (fun v h => v = none ∧ ∃ bo' dq', ¬ bo' < 0 ∧ RO Z h a tx sa ea da (iN e0) rv bo' (iN z) ∧ RA Z h tx sa ea da kt ks ke kd t (st.set z (iN b)) (en.set z (iN e0)) dq' ∧ Below n1 h0 h)) (T.setTop (mkF m 32 #[.val (.ref a), .val (.int (iN j))] [])) := by
    refine hseg (fun i => ∀ j, FS t 32 i j → ∀ (T : State) (h : Heap) (bo : Int32) (dq : List Int32), Pl p l e ({ frames := 1, cells := 0, slots := 0, locals := 30 } : Room) s m #[(.ref a)] below meth cc Z (⟨"com/example/lintel/lintel/io/CsvReader", "plain", "()V"⟩ : MethodName) prog_1_method_11_code 2 none n0 T h (0) (0) → ¬ bo < 0 → RO Z h a tx sa ea da (iN b) rv bo (iN z) → RA Z h tx sa ea da kt ks ke kd t (st.set z (iN b)) en dq → Below n1 h0 h → Go p e below (Done s ({ frames := 1, cells := 0, slots := 0, locals := 30 } : Room) n0 (fun v h => v = none ∧ ∃ bo' dq', ¬ bo' < 0 ∧ RO Z h a tx sa ea da (iN e0) rv bo' (iN z) ∧ RA Z h tx sa ea da kt ks ke kd t (st.set z (iN b)) (en.set z (iN e0)) dq' ∧ Below n1 h0 h)) (T.setTop (mkF m 32 #[.val (.ref a), .val (.int (iN j))] []))) ?_ ?_ ?_
    · intro j hj T h bo dq P hbo F A B
      have lt := A.2.2.2.2.1
      obtain rfl : j = e0 := by
        obtain ⟨q1, q2, q3, q4⟩ := hj
        rcases hend with r | ⟨c, r1, r2⟩
        · omega
        · by_cases r : j = e0
          · exact r
          · refine absurd ?_ (q3 e0 c (Nat.le_refl _) (by omega) r1)
            rcases r2 with r2 | r2 | r2
            · exact Or.inl r2
            · exact Or.inr (Or.inl r2)
            · exact Or.inr (Or.inr (Or.inl r2.1))
      rcases hend with rfl | ⟨c, hc, hd⟩
      · refine g_iloadN P d9_32 rfl ?_
        refine g_aloadN P d9_33 rfl rfl ?_
        refine g_getF (host := "") P d9_34 (Or.inl (hw _ (List.mem_of_getElem? (i := 24) rfl))) Via.refl F.f_length fun T17 P17 => ?_
        refine g_icmpYes P17 d9_37 (flt (nlt32 (Nat.le_refl _) (by omega))).2.1 85 (by decide) (by decide) ?_
        refine g_iloadN P17 d9_85 rfl ?_
        refine g_aloadN P17 d9_86 rfl rfl ?_
        refine g_getF (host := "") P17 d9_87 (Or.inl (hw _ (List.mem_of_getElem? (i := 24) rfl))) Via.refl F.f_length fun T18 P18 => ?_
        refine g_icmpYes P18 d9_90 (flt (nlt32 (Nat.le_refl _) (by omega))).2.1 111 (by decide) (by decide) ?_
        refine g_aloadN P18 d9_111 rfl rfl ?_
        refine g_getF (host := "") P18 d9_112 (Or.inl (hw _ (List.mem_of_getElem? (i := 17) rfl))) Via.refl F.f_ends fun T19 P19 => ?_
        refine g_aloadN P19 d9_115 rfl rfl ?_
        refine g_getF (host := "") P19 d9_116 (Or.inl (hw _ (List.mem_of_getElem? (i := 52) rfl))) Via.refl F.f_size fun T20 P20 => ?_
        refine g_iloadN P20 d9_119 rfl ?_
        refine g_iastore (i := z) P20 d9_120 A.2.2.1 (ix_iN (by omega)) (by rw [List.length_map]; have := A.2.2.2.2; omega) (by have := D1.2; omega) fun T21 h21 P21 W21 _ => ?_
        have F := F.other W21 D1.1.2.2.1
        have A := A.sen D1 W21
        have B := B.wr W21 (by have := D1.2; omega)
        refine g_aloadN P21 d9_121 rfl rfl ?_
        refine g_iloadN P21 d9_122 rfl ?_
        refine g_putF (host := "") P21 d9_123 (Or.inl (hw _ (List.mem_of_getElem? (i := 43) rfl))) Via.refl F.f_at F.exa (Or.inl (hw _ (List.mem_of_getElem? (i := 44) rfl))) (hw _ (List.mem_of_getElem? (i := 7) rfl)) (ty := .int) (by decide) rfl rfl (by have := D1.2; omega) fun T22 h22 P22 W22 => ?_
        exact g_ret P22 d9_126 (by decide) (by decide) ⟨rfl, bo, dq, hbo, F.set_at hw W22, A.sat D1 W22, B.wr W22 D1.2.1⟩
      · have he : j < 32 := by have := lt_some hc; omega
        rcases hd with rfl | rfl | ⟨rfl, hd⟩
        · refine g_iloadN P d9_32 rfl ?_
          refine g_aloadN P d9_33 rfl rfl ?_
          refine g_getF (host := "") P d9_34 (Or.inl (hw _ (List.mem_of_getElem? (i := 24) rfl))) Via.refl F.f_length fun T23 P23 => ?_
          refine g_icmpNo P23 d9_37 (tlt (lt32 he)).2.1 ?_
          refine g_aloadN P23 d9_40 rfl rfl ?_
          refine g_getF (host := "") P23 d9_41 (Or.inl (hw _ (List.mem_of_getElem? (i := 22) rfl))) Via.refl F.f_text fun T24 P24 => ?_
          refine g_iloadN P24 d9_44 rfl ?_
          refine g_baload (i := j) (v := (.int (44 : Int32))) P24 d9_45 A.1 (ix_iN (by omega)) (map_get hc) ?_
          refine g_bipush (v := (13 : Int32)) P24 d9_46 (by rfl) ?_
          refine g_icmpYes P24 d9_48 (by decide) 85 (by decide) (by decide) ?_
          refine g_iloadN P24 d9_85 rfl ?_
          refine g_aloadN P24 d9_86 rfl rfl ?_
          refine g_getF (host := "") P24 d9_87 (Or.inl (hw _ (List.mem_of_getElem? (i := 24) rfl))) Via.refl F.f_length fun T25 P25 => ?_
          refine g_icmpNo P25 d9_90 (tlt (lt32 he)).2.1 ?_
          refine g_aloadN P25 d9_93 rfl rfl ?_
          refine g_getF (host := "") P25 d9_94 (Or.inl (hw _ (List.mem_of_getElem? (i := 22) rfl))) Via.refl F.f_text fun T26 P26 => ?_
          refine g_iloadN P26 d9_97 rfl ?_
          refine g_baload (i := j) (v := (.int (44 : Int32))) P26 d9_98 A.1 (ix_iN (by omega)) (map_get hc) ?_
          refine g_bipush (v := (34 : Int32)) P26 d9_99 (by rfl) ?_
          refine g_icmpYes P26 d9_101 (by decide) 111 (by decide) (by decide) ?_
          refine g_aloadN P26 d9_111 rfl rfl ?_
          refine g_getF (host := "") P26 d9_112 (Or.inl (hw _ (List.mem_of_getElem? (i := 17) rfl))) Via.refl F.f_ends fun T27 P27 => ?_
          refine g_aloadN P27 d9_115 rfl rfl ?_
          refine g_getF (host := "") P27 d9_116 (Or.inl (hw _ (List.mem_of_getElem? (i := 52) rfl))) Via.refl F.f_size fun T28 P28 => ?_
          refine g_iloadN P28 d9_119 rfl ?_
          refine g_iastore (i := z) P28 d9_120 A.2.2.1 (ix_iN (by omega)) (by rw [List.length_map]; have := A.2.2.2.2; omega) (by have := D1.2; omega) fun T29 h29 P29 W29 _ => ?_
          have F := F.other W29 D1.1.2.2.1
          have A := A.sen D1 W29
          have B := B.wr W29 (by have := D1.2; omega)
          refine g_aloadN P29 d9_121 rfl rfl ?_
          refine g_iloadN P29 d9_122 rfl ?_
          refine g_putF (host := "") P29 d9_123 (Or.inl (hw _ (List.mem_of_getElem? (i := 43) rfl))) Via.refl F.f_at F.exa (Or.inl (hw _ (List.mem_of_getElem? (i := 44) rfl))) (hw _ (List.mem_of_getElem? (i := 7) rfl)) (ty := .int) (by decide) rfl rfl (by have := D1.2; omega) fun T30 h30 P30 W30 => ?_
          exact g_ret P30 d9_126 (by decide) (by decide) ⟨rfl, bo, dq, hbo, F.set_at hw W30, A.sat D1 W30, B.wr W30 D1.2.1⟩
        · refine g_iloadN P d9_32 rfl ?_
          refine g_aloadN P d9_33 rfl rfl ?_
          refine g_getF (host := "") P d9_34 (Or.inl (hw _ (List.mem_of_getElem? (i := 24) rfl))) Via.refl F.f_length fun T31 P31 => ?_
          refine g_icmpNo P31 d9_37 (tlt (lt32 he)).2.1 ?_
          refine g_aloadN P31 d9_40 rfl rfl ?_
          refine g_getF (host := "") P31 d9_41 (Or.inl (hw _ (List.mem_of_getElem? (i := 22) rfl))) Via.refl F.f_text fun T32 P32 => ?_
          refine g_iloadN P32 d9_44 rfl ?_
          refine g_baload (i := j) (v := (.int (10 : Int32))) P32 d9_45 A.1 (ix_iN (by omega)) (map_get hc) ?_
          refine g_bipush (v := (13 : Int32)) P32 d9_46 (by rfl) ?_
          refine g_icmpYes P32 d9_48 (by decide) 85 (by decide) (by decide) ?_
          refine g_iloadN P32 d9_85 rfl ?_
          refine g_aloadN P32 d9_86 rfl rfl ?_
          refine g_getF (host := "") P32 d9_87 (Or.inl (hw _ (List.mem_of_getElem? (i := 24) rfl))) Via.refl F.f_length fun T33 P33 => ?_
          refine g_icmpNo P33 d9_90 (tlt (lt32 he)).2.1 ?_
          refine g_aloadN P33 d9_93 rfl rfl ?_
          refine g_getF (host := "") P33 d9_94 (Or.inl (hw _ (List.mem_of_getElem? (i := 22) rfl))) Via.refl F.f_text fun T34 P34 => ?_
          refine g_iloadN P34 d9_97 rfl ?_
          refine g_baload (i := j) (v := (.int (10 : Int32))) P34 d9_98 A.1 (ix_iN (by omega)) (map_get hc) ?_
          refine g_bipush (v := (34 : Int32)) P34 d9_99 (by rfl) ?_
          refine g_icmpYes P34 d9_101 (by decide) 111 (by decide) (by decide) ?_
          refine g_aloadN P34 d9_111 rfl rfl ?_
          refine g_getF (host := "") P34 d9_112 (Or.inl (hw _ (List.mem_of_getElem? (i := 17) rfl))) Via.refl F.f_ends fun T35 P35 => ?_
          refine g_aloadN P35 d9_115 rfl rfl ?_
          refine g_getF (host := "") P35 d9_116 (Or.inl (hw _ (List.mem_of_getElem? (i := 52) rfl))) Via.refl F.f_size fun T36 P36 => ?_
          refine g_iloadN P36 d9_119 rfl ?_
          refine g_iastore (i := z) P36 d9_120 A.2.2.1 (ix_iN (by omega)) (by rw [List.length_map]; have := A.2.2.2.2; omega) (by have := D1.2; omega) fun T37 h37 P37 W37 _ => ?_
          have F := F.other W37 D1.1.2.2.1
          have A := A.sen D1 W37
          have B := B.wr W37 (by have := D1.2; omega)
          refine g_aloadN P37 d9_121 rfl rfl ?_
          refine g_iloadN P37 d9_122 rfl ?_
          refine g_putF (host := "") P37 d9_123 (Or.inl (hw _ (List.mem_of_getElem? (i := 43) rfl))) Via.refl F.f_at F.exa (Or.inl (hw _ (List.mem_of_getElem? (i := 44) rfl))) (hw _ (List.mem_of_getElem? (i := 7) rfl)) (ty := .int) (by decide) rfl rfl (by have := D1.2; omega) fun T38 h38 P38 W38 => ?_
          exact g_ret P38 d9_126 (by decide) (by decide) ⟨rfl, bo, dq, hbo, F.set_at hw W38, A.sat D1 W38, B.wr W38 D1.2.1⟩
        · refine g_iloadN P d9_32 rfl ?_
          refine g_aloadN P d9_33 rfl rfl ?_
          refine g_getF (host := "") P d9_34 (Or.inl (hw _ (List.mem_of_getElem? (i := 24) rfl))) Via.refl F.f_length fun T39 P39 => ?_
          refine g_icmpNo P39 d9_37 (tlt (lt32 he)).2.1 ?_
          refine g_aloadN P39 d9_40 rfl rfl ?_
          refine g_getF (host := "") P39 d9_41 (Or.inl (hw _ (List.mem_of_getElem? (i := 22) rfl))) Via.refl F.f_text fun T40 P40 => ?_
          refine g_iloadN P40 d9_44 rfl ?_
          refine g_baload (i := j) (v := (.int (13 : Int32))) P40 d9_45 A.1 (ix_iN (by omega)) (map_get hc) ?_
          refine g_bipush (v := (13 : Int32)) P40 d9_46 (by rfl) ?_
          refine g_icmpNo P40 d9_48 (by decide) ?_
          refine g_iloadN P40 d9_51 rfl ?_
          refine g_iconst (v := (1 : Int32)) P40 d9_52 (by rfl) ?_
          refine g_iadd (v := (iN (j + 1))) P40 d9_53 (iN_add _ 1) ?_
          refine g_aloadN P40 d9_54 rfl rfl ?_
          have he2 : j + 1 < 32 := by have := lt_some hd; omega
          refine g_getF (host := "") P40 d9_55 (Or.inl (hw _ (List.mem_of_getElem? (i := 24) rfl))) Via.refl F.f_length fun T41 P41 => ?_
          refine g_icmpNo P41 d9_58 (feq (neN (k := 32) (by omega) (by omega) (by omega))).1 ?_
          refine g_aloadN P41 d9_61 rfl rfl ?_
          refine g_getF (host := "") P41 d9_62 (Or.inl (hw _ (List.mem_of_getElem? (i := 22) rfl))) Via.refl F.f_text fun T42 P42 => ?_
          refine g_iloadN P42 d9_65 rfl ?_
          refine g_iconst (v := (1 : Int32)) P42 d9_66 (by rfl) ?_
          refine g_iadd (v := (iN (j + 1))) P42 d9_67 (iN_add _ 1) ?_
          refine g_baload (i := (j + 1)) (v := (.int (10 : Int32))) P42 d9_68 A.1 (ix_iN (by omega)) (map_get hd) ?_
          refine g_bipush (v := (10 : Int32)) P42 d9_69 (by rfl) ?_
          refine g_icmpYes P42 d9_71 (by decide) 85 (by decide) (by decide) ?_
          refine g_iloadN P42 d9_85 rfl ?_
          refine g_aloadN P42 d9_86 rfl rfl ?_
          refine g_getF (host := "") P42 d9_87 (Or.inl (hw _ (List.mem_of_getElem? (i := 24) rfl))) Via.refl F.f_length fun T43 P43 => ?_
          refine g_icmpNo P43 d9_90 (tlt (lt32 he)).2.1 ?_
          refine g_aloadN P43 d9_93 rfl rfl ?_
          refine g_getF (host := "") P43 d9_94 (Or.inl (hw _ (List.mem_of_getElem? (i := 22) rfl))) Via.refl F.f_text fun T44 P44 => ?_
          refine g_iloadN P44 d9_97 rfl ?_
          refine g_baload (i := j) (v := (.int (13 : Int32))) P44 d9_98 A.1 (ix_iN (by omega)) (map_get hc) ?_
          refine g_bipush (v := (34 : Int32)) P44 d9_99 (by rfl) ?_
          refine g_icmpYes P44 d9_101 (by decide) 111 (by decide) (by decide) ?_
          refine g_aloadN P44 d9_111 rfl rfl ?_
          refine g_getF (host := "") P44 d9_112 (Or.inl (hw _ (List.mem_of_getElem? (i := 17) rfl))) Via.refl F.f_ends fun T45 P45 => ?_
          refine g_aloadN P45 d9_115 rfl rfl ?_
          refine g_getF (host := "") P45 d9_116 (Or.inl (hw _ (List.mem_of_getElem? (i := 52) rfl))) Via.refl F.f_size fun T46 P46 => ?_
          refine g_iloadN P46 d9_119 rfl ?_
          refine g_iastore (i := z) P46 d9_120 A.2.2.1 (ix_iN (by omega)) (by rw [List.length_map]; have := A.2.2.2.2; omega) (by have := D1.2; omega) fun T47 h47 P47 W47 _ => ?_
          have F := F.other W47 D1.1.2.2.1
          have A := A.sen D1 W47
          have B := B.wr W47 (by have := D1.2; omega)
          refine g_aloadN P47 d9_121 rfl rfl ?_
          refine g_iloadN P47 d9_122 rfl ?_
          refine g_putF (host := "") P47 d9_123 (Or.inl (hw _ (List.mem_of_getElem? (i := 43) rfl))) Via.refl F.f_at F.exa (Or.inl (hw _ (List.mem_of_getElem? (i := 44) rfl))) (hw _ (List.mem_of_getElem? (i := 7) rfl)) (ty := .int) (by decide) rfl rfl (by have := D1.2; omega) fun T48 h48 P48 W48 => ?_
          exact g_ret P48 d9_126 (by decide) (by decide) ⟨rfl, bo, dq, hbo, F.set_at hw W48, A.sat D1 W48, B.wr W48 D1.2.1⟩
    · have lt := A.2.2.2.2.1
      intro i c hc h1 h2 h3 h4 ih j hj
      refine ih j ⟨?_, hj.2.1, fun x b k1 k2 k3 => hj.2.2.1 x b (by omega) k2 k3, hj.2.2.2⟩
      have ha := hj.1
      by_cases r : i = j
      · subst r
        rcases hj.2.2.2 with q | ⟨c2, q1, q2⟩
        · have := lt_some hc; omega
        · rw [hc] at q1; cases q1; rcases q2 with q | q | q | q
          · exact absurd q h1
          · exact absurd q h2
          · exact absurd q h3
          · exact absurd q h4
      · omega
    · intro i c hc hl hd hn ih j hj T h bo dq P hbo F A B
      have lt := A.2.2.2.2.1
      obtain rfl : j = i := by
        obtain ⟨q1, q2, q3, q4⟩ := hj
        by_cases r : j = i
        · exact r
        · exact absurd (Or.inr (Or.inr (Or.inl rfl))) (q3 i 13 (Nat.le_refl _) (by omega) hc)
      have he : j < 32 := by have := lt_some hc; omega
      have he2 : j + 1 < 32 := by have := lt_some hd; omega
      refine g_iloadN P d9_32 rfl ?_
      refine g_aloadN P d9_33 rfl rfl ?_
      refine g_getF (host := "") P d9_34 (Or.inl (hw _ (List.mem_of_getElem? (i := 24) rfl))) Via.refl F.f_length fun T49 P49 => ?_
      refine g_icmpNo P49 d9_37 (tlt (lt32 he)).2.1 ?_
      refine g_aloadN P49 d9_40 rfl rfl ?_
      refine g_getF (host := "") P49 d9_41 (Or.inl (hw _ (List.mem_of_getElem? (i := 22) rfl))) Via.refl F.f_text fun T50 P50 => ?_
      refine g_iloadN P50 d9_44 rfl ?_
      refine g_baload (i := j) (v := (.int (13 : Int32))) P50 d9_45 A.1 (ix_iN (by omega)) (map_get hc) ?_
      refine g_bipush (v := (13 : Int32)) P50 d9_46 (by rfl) ?_
      refine g_icmpNo P50 d9_48 (by decide) ?_
      refine g_iloadN P50 d9_51 rfl ?_
      refine g_iconst (v := (1 : Int32)) P50 d9_52 (by rfl) ?_
      refine g_iadd (v := (iN (j + 1))) P50 d9_53 (iN_add _ 1) ?_
      refine g_aloadN P50 d9_54 rfl rfl ?_
      refine g_getF (host := "") P50 d9_55 (Or.inl (hw _ (List.mem_of_getElem? (i := 24) rfl))) Via.refl F.f_length fun T51 P51 => ?_
      refine g_icmpNo P51 d9_58 (feq (neN (k := 32) (by omega) (by omega) (by omega))).1 ?_
      refine g_aloadN P51 d9_61 rfl rfl ?_
      refine g_getF (host := "") P51 d9_62 (Or.inl (hw _ (List.mem_of_getElem? (i := 22) rfl))) Via.refl F.f_text fun T52 P52 => ?_
      refine g_iloadN P52 d9_65 rfl ?_
      refine g_iconst (v := (1 : Int32)) P52 d9_66 (by rfl) ?_
      refine g_iadd (v := (iN (j + 1))) P52 d9_67 (iN_add _ 1) ?_
      refine g_baload (i := (j + 1)) (v := (.int c)) P52 d9_68 A.1 (ix_iN (by omega)) (map_get hd) ?_
      refine g_bipush (v := (10 : Int32)) P52 d9_69 (by rfl) ?_
      refine g_icmpNo P52 d9_71 (feq hn).1 ?_
      refine g_aloadN P52 d9_74 rfl rfl ?_
      refine g_iloadN P52 d9_75 rfl ?_
      refine g_iconst (v := (1 : Int32)) P52 d9_76 (by rfl) ?_
      refine g_iadd (v := (iN (j + 1))) P52 d9_77 (iN_add _ 1) ?_
      refine g_private P52 a [(.int (iN (j + 1)))] (rest := []) (W := 0) d9_78 (hw _ (List.mem_of_getElem? (i := 58) rfl)) (hw _ (List.mem_of_getElem? (i := 60) rfl)) (hw _ (List.mem_of_getElem? (i := 48) rfl)) rfl (hw _ (List.mem_of_getElem? (i := 59) rfl)) (hw _ (List.mem_of_getElem? (i := 8) rfl)) (hw _ (List.mem_of_getElem? (i := 61) rfl)) (by decide) F.exa (rm_plainEnd l Z a0 hw _ n0 n1 a tx sa ea da kt ks ke kd t _ _ _ rv _ (iN b) (iN z) (j + 1) g10 F A hB D1 hbo (by omega)) pd_0 rfl rfl rfl rfl (by decide) (by decide) (by decide) (by decide) fun v53 T53 h53 P53 q53 => ?_
      obtain ⟨j', bo', rfl, hj', hbo, F, A, B'⟩ := q53
      refine g_istoreN P53 d9_81 #[.val (.ref a), .val (.int (iN j'))] rfl ?_
      refine g_goto P53 d9_82 32 (by decide) (by decide) ?_
      exact ih j' hj' _ _ _ _ P53 hbo F A (B.trans B')
  refine g_private P16 a [(.int (iN b))] (rest := []) (W := 0) d9_28 (hw _ (List.mem_of_getElem? (i := 58) rfl)) (hw _ (List.mem_of_getElem? (i := 60) rfl)) (hw _ (List.mem_of_getElem? (i := 48) rfl)) rfl (hw _ (List.mem_of_getElem? (i := 59) rfl)) (hw _ (List.mem_of_getElem? (i := 8) rfl)) (hw _ (List.mem_of_getElem? (i := 61) rfl)) (by decide) F.exa (rm_plainEnd l Z a0 hw _ n0 n1 a tx sa ea da kt ks ke kd t _ _ _ rv _ (iN b) (iN z) (b) g10 F A hB D1 hbo (by omega)) pd_0 rfl rfl rfl rfl (by decide) (by decide) (by decide) (by decide) fun v54 T54 h54 P54 q54 => ?_
  obtain ⟨j, bo', rfl, hj, hbo, F, A, B'⟩ := q54
  refine g_istoreN P54 d9_31 #[.val (.ref a), .val (.int (iN j))] rfl ?_
  exact key j hj _ _ _ _ P54 hbo F A (B.trans B')
set_option maxRecDepth 65536 in
set_option maxHeartbeats 40000000 in
theorem rm_quoted (l : Launch) (Z : State) (a0 : Array Value) (hw : ∀ d ∈ tables_1, d.before a0 Z = true) (h0 : Heap) (n0 : Nat) (n1 : Nat) (a tx sa ea da : Addr) (kt ks ke kd : ClassId) (t st en dq : List Int32) (rv bo : Int32) (b z e0 : Nat) (g10 : n0 ≤ n1) (F : RO Z h0 a tx sa ea da (iN b) rv bo (iN z)) (A : RA Z h0 tx sa ea da kt ks ke kd t st en dq) (hB : AllB t) (D1 : Dis n1 a tx sa ea da) (hbo : ¬ bo < 0) (hz : z < 64) (he32 : e0 ≤ 32) (hseg : QSeg t (b + 1) e0) (hend : t[e0]? = some 34) (hnq : t[e0 + 1]? ≠ some 34) :
    Met l Z (⟨"com/example/lintel/lintel/io/CsvReader", "quoted", "()V"⟩ : MethodName) prog_1_method_10_code 2 none ({ frames := 1, cells := 0, slots := 0, locals := 30 } : Room) n0 #[(.ref a)] h0 (fun v h => v = none ∧ ∃ bo' dq', ¬ bo' < 0 ∧ RO Z h a tx sa ea da (iN (e0 + 1)) rv bo' (iN z) ∧ RA Z h tx sa ea da kt ks ke kd t (st.set z (iN (b + 1))) (en.set z (iN e0)) dq' ∧ Below n1 h0 h) := by
  refine Met.intro (by decide +kernel) ?_
  intro p e s m below meth cc T0 P0
  refine Go.cast (g' := mkF m 0 #[.val (.ref a), .unset] []) (by first | (simp [entryFrame, mkF, argsToLocals, Value.category, maxLocals]; done) | rfl) ?_
  have hle := hseg.le
  have B : Below n1 h0 h0 := Below.refl
  have lt := A.2.2.2.2.1
  refine g_aloadN P0 d15_0 rfl rfl ?_
  refine g_getF (host := "") P0 d15_1 (Or.inl (hw _ (List.mem_of_getElem? (i := 15) rfl))) Via.refl F.f_starts fun T55 P55 => ?_
  refine g_aloadN P55 d15_4 rfl rfl ?_
  refine g_getF (host := "") P55 d15_5 (Or.inl (hw _ (List.mem_of_getElem? (i := 52) rfl))) Via.refl F.f_size fun T56 P56 => ?_
  refine g_aloadN P56 d15_8 rfl rfl ?_
  refine g_getF (host := "") P56 d15_9 (Or.inl (hw _ (List.mem_of_getElem? (i := 43) rfl))) Via.refl F.f_at fun T57 P57 => ?_
  refine g_iconst (v := (1 : Int32)) P57 d15_12 (by rfl) ?_
  refine g_iadd (v := (iN (b + 1))) P57 d15_13 (iN_add _ 1) ?_
  refine g_iastore (i := z) P57 d15_14 A.2.1 (ix_iN (by omega)) (by rw [List.length_map]; have := A.2.2.2.2; omega) (by have := D1.2; omega) fun T58 h58 P58 W58 _ => ?_
  have F := F.other W58 D1.1.2.1
  have A := A.sst D1 W58
  have B := B.wr W58 (by have := D1.2; omega)
  refine g_aloadN P58 d15_15 rfl rfl ?_
  refine g_getF (host := "") P58 d15_16 (Or.inl (hw _ (List.mem_of_getElem? (i := 20) rfl))) Via.refl F.f_doubledQuotes fun T59 P59 => ?_
  refine g_aloadN P59 d15_19 rfl rfl ?_
  refine g_getF (host := "") P59 d15_20 (Or.inl (hw _ (List.mem_of_getElem? (i := 52) rfl))) Via.refl F.f_size fun T60 P60 => ?_
  refine g_iconst (v := (0 : Int32)) P60 d15_23 (by rfl) ?_
  refine g_bastoreZ (i := z) (w := 0) P60 d15_24 A.2.2.2.1 (ix_iN (by omega)) (by rw [List.length_map]; have := A.2.2.2.2; omega) (by have := D1.2; omega) (by decide) fun T61 h61 P61 W61 _ => ?_
  have F := F.other W61 D1.1.2.2.2.1
  have A := A.sdq D1 W61
  have B := B.wr W61 (by have := D1.2; omega)
  refine g_aloadN P61 d15_25 rfl rfl ?_
  refine g_aloadN P61 d15_26 rfl rfl ?_
  refine g_getF (host := "") P61 d15_27 (Or.inl (hw _ (List.mem_of_getElem? (i := 43) rfl))) Via.refl F.f_at fun T62 P62 => ?_
  refine g_iconst (v := (1 : Int32)) P62 d15_30 (by rfl) ?_
  refine g_iadd (v := (iN (b + 1))) P62 d15_31 (iN_add _ 1) ?_
  have key : ∀ j, FQ t 32 (b + 1) j → ∀ (T : State) (h : Heap) (bo : Int32) (dq : List Int32), Pl p l e ({ frames := 1, cells := 0, slots := 0, locals := 30 } : Room) s m #[(.ref a)] below meth cc Z (⟨"com/example/lintel/lintel/io/CsvReader", "quoted", "()V"⟩ : MethodName) prog_1_method_10_code 2 none n0 T h (0) (0) → ¬ bo < 0 → RO Z h a tx sa ea da (iN b) rv bo (iN z) → RA Z h tx sa ea da kt ks ke kd t (st.set z (iN (b + 1))) en dq → Below n1 h0 h → Go p e below (Done s ({ frames := 1, cells := 0, slots := 0, locals := 30 } : Room) n0 (fun v h => v = none ∧ ∃ bo' dq', ¬ bo' < 0 ∧ RO Z h a tx sa ea da (iN (e0 + 1)) rv bo' (iN z) ∧ RA Z h tx sa ea da kt ks ke kd t (st.set z (iN (b + 1))) (en.set z (iN e0)) dq' ∧ Below n1 h0 h)) (T.setTop (mkF m 36 #[.val (.ref a), .val (.int (iN j))] [])) := by
    refine hseg (fun i => ∀ j, FQ t 32 i j → ∀ (T : State) (h : Heap) (bo : Int32) (dq : List Int32), Pl p l e ({ frames := 1, cells := 0, slots := 0, locals := 30 } : Room) s m #[(.ref a)] below meth cc Z (⟨"com/example/lintel/lintel/io/CsvReader", "quoted", "()V"⟩ : MethodName) prog_1_method_10_code 2 none n0 T h (0) (0) → ¬ bo < 0 → RO Z h a tx sa ea da (iN b) rv bo (iN z) → RA Z h tx sa ea da kt ks ke kd t (st.set z (iN (b + 1))) en dq → Below n1 h0 h → Go p e below (Done s ({ frames := 1, cells := 0, slots := 0, locals := 30 } : Room) n0 (fun v h => v = none ∧ ∃ bo' dq', ¬ bo' < 0 ∧ RO Z h a tx sa ea da (iN (e0 + 1)) rv bo' (iN z) ∧ RA Z h tx sa ea da kt ks ke kd t (st.set z (iN (b + 1))) (en.set z (iN e0)) dq' ∧ Below n1 h0 h)) (T.setTop (mkF m 36 #[.val (.ref a), .val (.int (iN j))] []))) ?_ ?_ ?_
    · intro j hj T h bo dq P hbo F A B
      have lt := A.2.2.2.2.1
      obtain rfl : j = e0 := by
        obtain ⟨q1, q2, q3, q4⟩ := hj
        by_cases r : j = e0
        · exact r
        · exact absurd hend (q3 e0 (Nat.le_refl _) (by omega))
      have he : j < 32 := by have := lt_some hend; omega
      by_cases h2 : j + 1 < 32
      · refine g_iloadN P d15_36 rfl ?_
        refine g_iconst (v := (1 : Int32)) P d15_37 (by rfl) ?_
        refine g_iadd (v := (iN (j + 1))) P d15_38 (iN_add _ 1) ?_
        refine g_aloadN P d15_39 rfl rfl ?_
        refine g_getF (host := "") P d15_40 (Or.inl (hw _ (List.mem_of_getElem? (i := 24) rfl))) Via.refl F.f_length fun T63 P63 => ?_
        refine g_icmpNo P63 d15_43 (tlt (lt32 h2)).2.1 ?_
        refine g_aloadN P63 d15_46 rfl rfl ?_
        refine g_getF (host := "") P63 d15_47 (Or.inl (hw _ (List.mem_of_getElem? (i := 22) rfl))) Via.refl F.f_text fun T64 P64 => ?_
        refine g_iloadN P64 d15_50 rfl ?_
        refine g_iconst (v := (1 : Int32)) P64 d15_51 (by rfl) ?_
        refine g_iadd (v := (iN (j + 1))) P64 d15_52 (iN_add _ 1) ?_
        obtain ⟨c, hc⟩ := get_of (t := t) (i := j + 1) (by omega)
        have hn : ¬ c = 34 := fun q => hnq (by rw [hc, q])
        refine g_baload (i := (j + 1)) (v := (.int c)) P64 d15_53 A.1 (ix_iN (by omega)) (map_get hc) ?_
        refine g_bipush (v := (34 : Int32)) P64 d15_54 (by rfl) ?_
        refine g_icmpYes P64 d15_56 (feq hn).2 80 (by decide) (by decide) ?_
        refine g_iloadN P64 d15_80 rfl ?_
        refine g_aloadN P64 d15_81 rfl rfl ?_
        refine g_getF (host := "") P64 d15_82 (Or.inl (hw _ (List.mem_of_getElem? (i := 24) rfl))) Via.refl F.f_length fun T65 P65 => ?_
        refine g_icmpYes P65 d15_85 (feq (neN (k := 32) (by omega) (by omega) (by omega))).2 95 (by decide) (by decide) ?_
        refine g_aloadN P65 d15_95 rfl rfl ?_
        refine g_getF (host := "") P65 d15_96 (Or.inl (hw _ (List.mem_of_getElem? (i := 17) rfl))) Via.refl F.f_ends fun T66 P66 => ?_
        refine g_aloadN P66 d15_99 rfl rfl ?_
        refine g_getF (host := "") P66 d15_100 (Or.inl (hw _ (List.mem_of_getElem? (i := 52) rfl))) Via.refl F.f_size fun T67 P67 => ?_
        refine g_iloadN P67 d15_103 rfl ?_
        refine g_iastore (i := z) P67 d15_104 A.2.2.1 (ix_iN (by omega)) (by rw [List.length_map]; have := A.2.2.2.2; omega) (by have := D1.2; omega) fun T68 h68 P68 W68 _ => ?_
        have F := F.other W68 D1.1.2.2.1
        have A := A.sen D1 W68
        have B := B.wr W68 (by have := D1.2; omega)
        refine g_aloadN P68 d15_105 rfl rfl ?_
        refine g_iloadN P68 d15_106 rfl ?_
        refine g_iconst (v := (1 : Int32)) P68 d15_107 (by rfl) ?_
        refine g_iadd (v := (iN (j + 1))) P68 d15_108 (iN_add _ 1) ?_
        refine g_putF (host := "") P68 d15_109 (Or.inl (hw _ (List.mem_of_getElem? (i := 43) rfl))) Via.refl F.f_at F.exa (Or.inl (hw _ (List.mem_of_getElem? (i := 44) rfl))) (hw _ (List.mem_of_getElem? (i := 7) rfl)) (ty := .int) (by decide) rfl rfl (by have := D1.2; omega) fun T69 h69 P69 W69 => ?_
        exact g_ret P69 d15_112 (by decide) (by decide) ⟨rfl, bo, dq, hbo, F.set_at hw W69, A.sat D1 W69, B.wr W69 D1.2.1⟩
      · refine g_iloadN P d15_36 rfl ?_
        refine g_iconst (v := (1 : Int32)) P d15_37 (by rfl) ?_
        refine g_iadd (v := (iN (j + 1))) P d15_38 (iN_add _ 1) ?_
        refine g_aloadN P d15_39 rfl rfl ?_
        refine g_getF (host := "") P d15_40 (Or.inl (hw _ (List.mem_of_getElem? (i := 24) rfl))) Via.refl F.f_length fun T70 P70 => ?_
        refine g_icmpYes P70 d15_43 (flt (nlt32 (by omega) (by omega))).2.1 80 (by decide) (by decide) ?_
        refine g_iloadN P70 d15_80 rfl ?_
        refine g_aloadN P70 d15_81 rfl rfl ?_
        refine g_getF (host := "") P70 d15_82 (Or.inl (hw _ (List.mem_of_getElem? (i := 24) rfl))) Via.refl F.f_length fun T71 P71 => ?_
        refine g_icmpYes P71 d15_85 (feq (neN (k := 32) (by omega) (by omega) (by omega))).2 95 (by decide) (by decide) ?_
        refine g_aloadN P71 d15_95 rfl rfl ?_
        refine g_getF (host := "") P71 d15_96 (Or.inl (hw _ (List.mem_of_getElem? (i := 17) rfl))) Via.refl F.f_ends fun T72 P72 => ?_
        refine g_aloadN P72 d15_99 rfl rfl ?_
        refine g_getF (host := "") P72 d15_100 (Or.inl (hw _ (List.mem_of_getElem? (i := 52) rfl))) Via.refl F.f_size fun T73 P73 => ?_
        refine g_iloadN P73 d15_103 rfl ?_
        refine g_iastore (i := z) P73 d15_104 A.2.2.1 (ix_iN (by omega)) (by rw [List.length_map]; have := A.2.2.2.2; omega) (by have := D1.2; omega) fun T74 h74 P74 W74 _ => ?_
        have F := F.other W74 D1.1.2.2.1
        have A := A.sen D1 W74
        have B := B.wr W74 (by have := D1.2; omega)
        refine g_aloadN P74 d15_105 rfl rfl ?_
        refine g_iloadN P74 d15_106 rfl ?_
        refine g_iconst (v := (1 : Int32)) P74 d15_107 (by rfl) ?_
        refine g_iadd (v := (iN (j + 1))) P74 d15_108 (iN_add _ 1) ?_
        refine g_putF (host := "") P74 d15_109 (Or.inl (hw _ (List.mem_of_getElem? (i := 43) rfl))) Via.refl F.f_at F.exa (Or.inl (hw _ (List.mem_of_getElem? (i := 44) rfl))) (hw _ (List.mem_of_getElem? (i := 7) rfl)) (ty := .int) (by decide) rfl rfl (by have := D1.2; omega) fun T75 h75 P75 W75 => ?_
        exact g_ret P75 d15_112 (by decide) (by decide) ⟨rfl, bo, dq, hbo, F.set_at hw W75, A.sat D1 W75, B.wr W75 D1.2.1⟩
    · have lt := A.2.2.2.2.1
      intro i c hc h1 ih j hj
      refine ih j ⟨?_, hj.2.1, fun x k1 k2 => hj.2.2.1 x (by omega) k2, hj.2.2.2⟩
      have ha := hj.1
      by_cases r : i = j
      · subst r
        rcases hj.2.2.2 with q | q
        · have := lt_some hc; omega
        · rw [hc] at q; cases q; exact absurd rfl h1
      · omega
    · intro i hc hd ih j hj T h bo dq P hbo F A B
      have lt := A.2.2.2.2.1
      obtain rfl : j = i := by
        obtain ⟨q1, q2, q3, q4⟩ := hj
        by_cases r : j = i
        · exact r
        · exact absurd hc (q3 i (Nat.le_refl _) (by omega))
      have he : j < 32 := by have := lt_some hc; omega
      have he2 : j + 1 < 32 := by have := lt_some hd; omega
      refine g_iloadN P d15_36 rfl ?_
      refine g_iconst (v := (1 : Int32)) P d15_37 (by rfl) ?_
      refine g_iadd (v := (iN (j + 1))) P d15_38 (iN_add _ 1) ?_
      refine g_aloadN P d15_39 rfl rfl ?_
      refine g_getF (host := "") P d15_40 (Or.inl (hw _ (List.mem_of_getElem? (i := 24) rfl))) Via.refl F.f_length fun T76 P76 => ?_
      refine g_icmpNo P76 d15_43 (tlt (lt32 he2)).2.1 ?_
      refine g_aloadN P76 d15_46 rfl rfl ?_
      refine g_getF (host := "") P76 d15_47 (Or.inl (hw _ (List.mem_of_getElem? (i := 22) rfl))) Via.refl F.f_text fun T77 P77 => ?_
      refine g_iloadN P77 d15_50 rfl ?_
      refine g_iconst (v := (1 : Int32)) P77 d15_51 (by rfl) ?_
      refine g_iadd (v := (iN (j + 1))) P77 d15_52 (iN_add _ 1) ?_
      refine g_baload (i := (j + 1)) (v := (.int (34 : Int32))) P77 d15_53 A.1 (ix_iN (by omega)) (map_get hd) ?_
      refine g_bipush (v := (34 : Int32)) P77 d15_54 (by rfl) ?_
      refine g_icmpNo P77 d15_56 (by decide) ?_
      refine g_aloadN P77 d15_59 rfl rfl ?_
      refine g_getF (host := "") P77 d15_60 (Or.inl (hw _ (List.mem_of_getElem? (i := 20) rfl))) Via.refl F.f_doubledQuotes fun T78 P78 => ?_
      refine g_aloadN P78 d15_63 rfl rfl ?_
      refine g_getF (host := "") P78 d15_64 (Or.inl (hw _ (List.mem_of_getElem? (i := 52) rfl))) Via.refl F.f_size fun T79 P79 => ?_
      refine g_iconst (v := (1 : Int32)) P79 d15_67 (by rfl) ?_
      refine g_bastoreZ (i := z) (w := 1) P79 d15_68 A.2.2.2.1 (ix_iN (by omega)) (by rw [List.length_map]; have := A.2.2.2.2; omega) (by have := D1.2; omega) (by decide) fun T80 h80 P80 W80 _ => ?_
      have F := F.other W80 D1.1.2.2.2.1
      have A := A.sdq D1 W80
      have B := B.wr W80 (by have := D1.2; omega)
      refine g_aloadN P80 d15_69 rfl rfl ?_
      refine g_iloadN P80 d15_70 rfl ?_
      refine g_iconst (v := (2 : Int32)) P80 d15_71 (by rfl) ?_
      refine g_iadd (v := (iN (j + 2))) P80 d15_72 (iN_add _ 2) ?_
      refine g_private P80 a [(.int (iN (j + 2)))] (rest := []) (W := 0) d15_73 (hw _ (List.mem_of_getElem? (i := 85) rfl)) (hw _ (List.mem_of_getElem? (i := 87) rfl)) (hw _ (List.mem_of_getElem? (i := 48) rfl)) rfl (hw _ (List.mem_of_getElem? (i := 86) rfl)) (hw _ (List.mem_of_getElem? (i := 8) rfl)) (hw _ (List.mem_of_getElem? (i := 88) rfl)) (by decide) F.exa (rm_quoteAt l Z a0 hw _ n0 n1 a tx sa ea da kt ks ke kd t _ _ _ rv _ (iN b) (iN z) (j + 2) g10 F A hB D1 hbo (by omega)) pd_0 rfl rfl rfl rfl (by decide) (by decide) (by decide) (by decide) fun v81 T81 h81 P81 q81 => ?_
      obtain ⟨j', bo', rfl, hj', hbo, F, A, B'⟩ := q81
      refine g_istoreN P81 d15_76 #[.val (.ref a), .val (.int (iN j'))] rfl ?_
      refine g_goto P81 d15_77 36 (by decide) (by decide) ?_
      exact ih j' hj' _ _ _ _ P81 hbo F A (B.trans B')
  refine g_private P62 a [(.int (iN (b + 1)))] (rest := []) (W := 0) d15_32 (hw _ (List.mem_of_getElem? (i := 85) rfl)) (hw _ (List.mem_of_getElem? (i := 87) rfl)) (hw _ (List.mem_of_getElem? (i := 48) rfl)) rfl (hw _ (List.mem_of_getElem? (i := 86) rfl)) (hw _ (List.mem_of_getElem? (i := 8) rfl)) (hw _ (List.mem_of_getElem? (i := 88) rfl)) (by decide) F.exa (rm_quoteAt l Z a0 hw _ n0 n1 a tx sa ea da kt ks ke kd t _ _ _ rv _ (iN b) (iN z) ((b + 1)) g10 F A hB D1 hbo (by omega)) pd_0 rfl rfl rfl rfl (by decide) (by decide) (by decide) (by decide) fun v82 T82 h82 P82 q82 => ?_
  obtain ⟨j, bo', rfl, hj, hbo, F, A, B'⟩ := q82
  refine g_istoreN P82 d15_35 #[.val (.ref a), .val (.int (iN j))] rfl ?_
  exact key j hj _ _ _ _ P82 hbo F A (B.trans B')
def LB (t : List Int32) (f : Nat) (r : Int32) : Prop := (t[f]? = some 13 ∧ t[f + 1]? = some 10 ∧ r = 2) ∨ (t[f]? = some 10 ∧ r = 1) ∨ (f = 32 ∧ r = 0) ∨ (t[f]? = some 44 ∧ r = 0)
set_option maxRecDepth 65536 in
set_option maxHeartbeats 40000000 in
theorem rm_lb (l : Launch) (Z : State) (a0 : Array Value) (hw : ∀ d ∈ tables_1, d.before a0 Z = true) (h0 : Heap) (n0 : Nat) (n1 : Nat) (a tx sa ea da : Addr) (kt ks ke kd : ClassId) (t st en dq : List Int32) (rv bo : Int32) (sv : Int32) (f : Nat) (r : Int32) (F : RO Z h0 a tx sa ea da (iN f) rv bo sv) (A : RA Z h0 tx sa ea da kt ks ke kd t st en dq) (hr : LB t f r) :
    Met l Z (⟨"com/example/lintel/lintel/io/CsvReader", "lineBreakLength", "()I"⟩ : MethodName) prog_1_method_14_code 2 (some .int) ({ frames := 0, cells := 0, slots := 0, locals := 0 } : Room) n0 #[(.ref a)] h0 (fun v h => v = some (.int r) ∧ h0 = h) := by
  refine Met.intro (by decide +kernel) ?_
  intro p e s m below meth cc T0 P0
  refine Go.cast (g' := mkF m 0 #[.val (.ref a), .unset] []) (by first | (simp [entryFrame, mkF, argsToLocals, Value.category, maxLocals]; done) | rfl) ?_
  have lt := A.2.2.2.2.1
  rcases hr with ⟨hc, hd, rfl⟩ | ⟨hc, rfl⟩ | ⟨rfl, rfl⟩ | ⟨hc, rfl⟩
  · have h2 : f + 1 < 32 := by have := lt_some hd; omega
    refine g_aloadN P0 d11_0 rfl rfl ?_
    refine g_getF (host := "") P0 d11_1 (Or.inl (hw _ (List.mem_of_getElem? (i := 43) rfl))) Via.refl F.f_at fun T83 P83 => ?_
    refine g_iconst (v := (1 : Int32)) P83 d11_4 (by rfl) ?_
    refine g_iadd (v := (iN (f + 1))) P83 d11_5 (iN_add _ 1) ?_
    refine g_aloadN P83 d11_6 rfl rfl ?_
    refine g_getF (host := "") P83 d11_7 (Or.inl (hw _ (List.mem_of_getElem? (i := 24) rfl))) Via.refl F.f_length fun T84 P84 => ?_
    refine g_icmpNo P84 d11_10 (tlt (lt32 h2)).2.1 ?_
    refine g_aloadN P84 d11_13 rfl rfl ?_
    refine g_getF (host := "") P84 d11_14 (Or.inl (hw _ (List.mem_of_getElem? (i := 22) rfl))) Via.refl F.f_text fun T85 P85 => ?_
    refine g_aloadN P85 d11_17 rfl rfl ?_
    refine g_getF (host := "") P85 d11_18 (Or.inl (hw _ (List.mem_of_getElem? (i := 43) rfl))) Via.refl F.f_at fun T86 P86 => ?_
    refine g_baload (i := f) (v := (.int (13 : Int32))) P86 d11_21 A.1 (ix_iN (by omega)) (map_get hc) ?_
    refine g_bipush (v := (13 : Int32)) P86 d11_22 (by rfl) ?_
    refine g_icmpNo P86 d11_24 (by decide) ?_
    refine g_aloadN P86 d11_27 rfl rfl ?_
    refine g_getF (host := "") P86 d11_28 (Or.inl (hw _ (List.mem_of_getElem? (i := 22) rfl))) Via.refl F.f_text fun T87 P87 => ?_
    refine g_aloadN P87 d11_31 rfl rfl ?_
    refine g_getF (host := "") P87 d11_32 (Or.inl (hw _ (List.mem_of_getElem? (i := 43) rfl))) Via.refl F.f_at fun T88 P88 => ?_
    refine g_iconst (v := (1 : Int32)) P88 d11_35 (by rfl) ?_
    refine g_iadd (v := (iN (f + 1))) P88 d11_36 (iN_add _ 1) ?_
    refine g_baload (i := (f + 1)) (v := (.int (10 : Int32))) P88 d11_37 A.1 (ix_iN (by omega)) (map_get hd) ?_
    refine g_bipush (v := (10 : Int32)) P88 d11_38 (by rfl) ?_
    refine g_icmpNo P88 d11_40 (by decide) ?_
    refine g_iconst (v := (2 : Int32)) P88 d11_43 (by rfl) ?_
    refine g_istoreN P88 d11_44 #[.val (.ref a), .val (.int (2 : Int32))] rfl ?_
    refine g_goto P88 d11_45 80 (by decide) (by decide) ?_
    refine g_iloadN P88 d11_80 rfl ?_
    exact g_retI P88 d11_81 (by decide) (by decide) ⟨rfl, rfl⟩
  · have h1 : f < 32 := by have := lt_some hc; omega
    refine g_aloadN P0 d11_0 rfl rfl ?_
    refine g_getF (host := "") P0 d11_1 (Or.inl (hw _ (List.mem_of_getElem? (i := 43) rfl))) Via.refl F.f_at fun T89 P89 => ?_
    refine g_iconst (v := (1 : Int32)) P89 d11_4 (by rfl) ?_
    refine g_iadd (v := (iN (f + 1))) P89 d11_5 (iN_add _ 1) ?_
    refine g_aloadN P89 d11_6 rfl rfl ?_
    refine g_getF (host := "") P89 d11_7 (Or.inl (hw _ (List.mem_of_getElem? (i := 24) rfl))) Via.refl F.f_length fun T90 P90 => ?_
    by_cases h2 : f + 1 < 32
    · refine g_icmpNo P90 d11_10 (tlt (lt32 h2)).2.1 ?_
      refine g_aloadN P90 d11_13 rfl rfl ?_
      refine g_getF (host := "") P90 d11_14 (Or.inl (hw _ (List.mem_of_getElem? (i := 22) rfl))) Via.refl F.f_text fun T91 P91 => ?_
      refine g_aloadN P91 d11_17 rfl rfl ?_
      refine g_getF (host := "") P91 d11_18 (Or.inl (hw _ (List.mem_of_getElem? (i := 43) rfl))) Via.refl F.f_at fun T92 P92 => ?_
      refine g_baload (i := f) (v := (.int (10 : Int32))) P92 d11_21 A.1 (ix_iN (by omega)) (map_get hc) ?_
      refine g_bipush (v := (13 : Int32)) P92 d11_22 (by rfl) ?_
      refine g_icmpYes P92 d11_24 (by decide) 48 (by decide) (by decide) ?_
      refine g_aloadN P92 d11_48 rfl rfl ?_
      refine g_getF (host := "") P92 d11_49 (Or.inl (hw _ (List.mem_of_getElem? (i := 43) rfl))) Via.refl F.f_at fun T93 P93 => ?_
      refine g_aloadN P93 d11_52 rfl rfl ?_
      refine g_getF (host := "") P93 d11_53 (Or.inl (hw _ (List.mem_of_getElem? (i := 24) rfl))) Via.refl F.f_length fun T94 P94 => ?_
      refine g_icmpNo P94 d11_56 (tlt (lt32 h1)).2.1 ?_
      refine g_aloadN P94 d11_59 rfl rfl ?_
      refine g_getF (host := "") P94 d11_60 (Or.inl (hw _ (List.mem_of_getElem? (i := 22) rfl))) Via.refl F.f_text fun T95 P95 => ?_
      refine g_aloadN P95 d11_63 rfl rfl ?_
      refine g_getF (host := "") P95 d11_64 (Or.inl (hw _ (List.mem_of_getElem? (i := 43) rfl))) Via.refl F.f_at fun T96 P96 => ?_
      refine g_baload (i := f) (v := (.int (10 : Int32))) P96 d11_67 A.1 (ix_iN (by omega)) (map_get hc) ?_
      refine g_bipush (v := (10 : Int32)) P96 d11_68 (by rfl) ?_
      refine g_icmpNo P96 d11_70 (by decide) ?_
      refine g_iconst (v := (1 : Int32)) P96 d11_73 (by rfl) ?_
      refine g_istoreN P96 d11_74 #[.val (.ref a), .val (.int (1 : Int32))] rfl ?_
      refine g_goto P96 d11_75 80 (by decide) (by decide) ?_
      refine g_iloadN P96 d11_80 rfl ?_
      exact g_retI P96 d11_81 (by decide) (by decide) ⟨rfl, rfl⟩
    · refine g_icmpYes P90 d11_10 (flt (nlt32 (by omega) (by omega))).2.1 48 (by decide) (by decide) ?_
      refine g_aloadN P90 d11_48 rfl rfl ?_
      refine g_getF (host := "") P90 d11_49 (Or.inl (hw _ (List.mem_of_getElem? (i := 43) rfl))) Via.refl F.f_at fun T97 P97 => ?_
      refine g_aloadN P97 d11_52 rfl rfl ?_
      refine g_getF (host := "") P97 d11_53 (Or.inl (hw _ (List.mem_of_getElem? (i := 24) rfl))) Via.refl F.f_length fun T98 P98 => ?_
      refine g_icmpNo P98 d11_56 (tlt (lt32 h1)).2.1 ?_
      refine g_aloadN P98 d11_59 rfl rfl ?_
      refine g_getF (host := "") P98 d11_60 (Or.inl (hw _ (List.mem_of_getElem? (i := 22) rfl))) Via.refl F.f_text fun T99 P99 => ?_
      refine g_aloadN P99 d11_63 rfl rfl ?_
      refine g_getF (host := "") P99 d11_64 (Or.inl (hw _ (List.mem_of_getElem? (i := 43) rfl))) Via.refl F.f_at fun T100 P100 => ?_
      refine g_baload (i := f) (v := (.int (10 : Int32))) P100 d11_67 A.1 (ix_iN (by omega)) (map_get hc) ?_
      refine g_bipush (v := (10 : Int32)) P100 d11_68 (by rfl) ?_
      refine g_icmpNo P100 d11_70 (by decide) ?_
      refine g_iconst (v := (1 : Int32)) P100 d11_73 (by rfl) ?_
      refine g_istoreN P100 d11_74 #[.val (.ref a), .val (.int (1 : Int32))] rfl ?_
      refine g_goto P100 d11_75 80 (by decide) (by decide) ?_
      refine g_iloadN P100 d11_80 rfl ?_
      exact g_retI P100 d11_81 (by decide) (by decide) ⟨rfl, rfl⟩
  · refine g_aloadN P0 d11_0 rfl rfl ?_
    refine g_getF (host := "") P0 d11_1 (Or.inl (hw _ (List.mem_of_getElem? (i := 43) rfl))) Via.refl F.f_at fun T101 P101 => ?_
    refine g_iconst (v := (1 : Int32)) P101 d11_4 (by rfl) ?_
    refine g_iadd (v := (iN (32 + 1))) P101 d11_5 (iN_add _ 1) ?_
    refine g_aloadN P101 d11_6 rfl rfl ?_
    refine g_getF (host := "") P101 d11_7 (Or.inl (hw _ (List.mem_of_getElem? (i := 24) rfl))) Via.refl F.f_length fun T102 P102 => ?_
    refine g_icmpYes P102 d11_10 (flt (nlt32 (by omega) (by omega))).2.1 48 (by decide) (by decide) ?_
    refine g_aloadN P102 d11_48 rfl rfl ?_
    refine g_getF (host := "") P102 d11_49 (Or.inl (hw _ (List.mem_of_getElem? (i := 43) rfl))) Via.refl F.f_at fun T103 P103 => ?_
    refine g_aloadN P103 d11_52 rfl rfl ?_
    refine g_getF (host := "") P103 d11_53 (Or.inl (hw _ (List.mem_of_getElem? (i := 24) rfl))) Via.refl F.f_length fun T104 P104 => ?_
    refine g_icmpYes P104 d11_56 (flt (nlt32 (Nat.le_refl _) (by omega))).2.1 78 (by decide) (by decide) ?_
    refine g_iconst (v := (0 : Int32)) P104 d11_78 (by rfl) ?_
    refine g_istoreN P104 d11_79 #[.val (.ref a), .val (.int (0 : Int32))] rfl ?_
    refine g_iloadN P104 d11_80 rfl ?_
    exact g_retI P104 d11_81 (by decide) (by decide) ⟨rfl, rfl⟩
  · have h1 : f < 32 := by have := lt_some hc; omega
    refine g_aloadN P0 d11_0 rfl rfl ?_
    refine g_getF (host := "") P0 d11_1 (Or.inl (hw _ (List.mem_of_getElem? (i := 43) rfl))) Via.refl F.f_at fun T105 P105 => ?_
    refine g_iconst (v := (1 : Int32)) P105 d11_4 (by rfl) ?_
    refine g_iadd (v := (iN (f + 1))) P105 d11_5 (iN_add _ 1) ?_
    refine g_aloadN P105 d11_6 rfl rfl ?_
    refine g_getF (host := "") P105 d11_7 (Or.inl (hw _ (List.mem_of_getElem? (i := 24) rfl))) Via.refl F.f_length fun T106 P106 => ?_
    by_cases h2 : f + 1 < 32
    · refine g_icmpNo P106 d11_10 (tlt (lt32 h2)).2.1 ?_
      refine g_aloadN P106 d11_13 rfl rfl ?_
      refine g_getF (host := "") P106 d11_14 (Or.inl (hw _ (List.mem_of_getElem? (i := 22) rfl))) Via.refl F.f_text fun T107 P107 => ?_
      refine g_aloadN P107 d11_17 rfl rfl ?_
      refine g_getF (host := "") P107 d11_18 (Or.inl (hw _ (List.mem_of_getElem? (i := 43) rfl))) Via.refl F.f_at fun T108 P108 => ?_
      refine g_baload (i := f) (v := (.int (44 : Int32))) P108 d11_21 A.1 (ix_iN (by omega)) (map_get hc) ?_
      refine g_bipush (v := (13 : Int32)) P108 d11_22 (by rfl) ?_
      refine g_icmpYes P108 d11_24 (by decide) 48 (by decide) (by decide) ?_
      refine g_aloadN P108 d11_48 rfl rfl ?_
      refine g_getF (host := "") P108 d11_49 (Or.inl (hw _ (List.mem_of_getElem? (i := 43) rfl))) Via.refl F.f_at fun T109 P109 => ?_
      refine g_aloadN P109 d11_52 rfl rfl ?_
      refine g_getF (host := "") P109 d11_53 (Or.inl (hw _ (List.mem_of_getElem? (i := 24) rfl))) Via.refl F.f_length fun T110 P110 => ?_
      refine g_icmpNo P110 d11_56 (tlt (lt32 h1)).2.1 ?_
      refine g_aloadN P110 d11_59 rfl rfl ?_
      refine g_getF (host := "") P110 d11_60 (Or.inl (hw _ (List.mem_of_getElem? (i := 22) rfl))) Via.refl F.f_text fun T111 P111 => ?_
      refine g_aloadN P111 d11_63 rfl rfl ?_
      refine g_getF (host := "") P111 d11_64 (Or.inl (hw _ (List.mem_of_getElem? (i := 43) rfl))) Via.refl F.f_at fun T112 P112 => ?_
      refine g_baload (i := f) (v := (.int (44 : Int32))) P112 d11_67 A.1 (ix_iN (by omega)) (map_get hc) ?_
      refine g_bipush (v := (10 : Int32)) P112 d11_68 (by rfl) ?_
      refine g_icmpYes P112 d11_70 (by decide) 78 (by decide) (by decide) ?_
      refine g_iconst (v := (0 : Int32)) P112 d11_78 (by rfl) ?_
      refine g_istoreN P112 d11_79 #[.val (.ref a), .val (.int (0 : Int32))] rfl ?_
      refine g_iloadN P112 d11_80 rfl ?_
      exact g_retI P112 d11_81 (by decide) (by decide) ⟨rfl, rfl⟩
    · refine g_icmpYes P106 d11_10 (flt (nlt32 (by omega) (by omega))).2.1 48 (by decide) (by decide) ?_
      refine g_aloadN P106 d11_48 rfl rfl ?_
      refine g_getF (host := "") P106 d11_49 (Or.inl (hw _ (List.mem_of_getElem? (i := 43) rfl))) Via.refl F.f_at fun T113 P113 => ?_
      refine g_aloadN P113 d11_52 rfl rfl ?_
      refine g_getF (host := "") P113 d11_53 (Or.inl (hw _ (List.mem_of_getElem? (i := 24) rfl))) Via.refl F.f_length fun T114 P114 => ?_
      refine g_icmpNo P114 d11_56 (tlt (lt32 h1)).2.1 ?_
      refine g_aloadN P114 d11_59 rfl rfl ?_
      refine g_getF (host := "") P114 d11_60 (Or.inl (hw _ (List.mem_of_getElem? (i := 22) rfl))) Via.refl F.f_text fun T115 P115 => ?_
      refine g_aloadN P115 d11_63 rfl rfl ?_
      refine g_getF (host := "") P115 d11_64 (Or.inl (hw _ (List.mem_of_getElem? (i := 43) rfl))) Via.refl F.f_at fun T116 P116 => ?_
      refine g_baload (i := f) (v := (.int (44 : Int32))) P116 d11_67 A.1 (ix_iN (by omega)) (map_get hc) ?_
      refine g_bipush (v := (10 : Int32)) P116 d11_68 (by rfl) ?_
      refine g_icmpYes P116 d11_70 (by decide) 78 (by decide) (by decide) ?_
      refine g_iconst (v := (0 : Int32)) P116 d11_78 (by rfl) ?_
      refine g_istoreN P116 d11_79 #[.val (.ref a), .val (.int (0 : Int32))] rfl ?_
      refine g_iloadN P116 d11_80 rfl ?_
      exact g_retI P116 d11_81 (by decide) (by decide) ⟨rfl, rfl⟩
set_option maxRecDepth 65536 in
set_option maxHeartbeats 40000000 in
theorem rm_size (l : Launch) (Z : State) (a0 : Array Value) (hw : ∀ d ∈ tables_1, d.before a0 Z = true) (h0 : Heap) (n0 : Nat) (n1 : Nat) (a tx sa ea da : Addr) (kt ks ke kd : ClassId) (t st en dq : List Int32) (rv bo : Int32) (av sv : Int32) (F : RO Z h0 a tx sa ea da av rv bo sv) :
    Met l Z (⟨"com/example/lintel/lintel/io/CsvReader", "size", "()I"⟩ : MethodName) prog_1_method_4_code 1 (some .int) ({ frames := 0, cells := 0, slots := 0, locals := 0 } : Room) n0 #[(.ref a)] h0 (fun v h => v = some (.int sv) ∧ h0 = h) := by
  refine Met.intro (by decide +kernel) ?_
  intro p e s m below meth cc T0 P0
  refine Go.cast (g' := mkF m 0 #[.val (.ref a)] []) (by first | (simp [entryFrame, mkF, argsToLocals, Value.category, maxLocals]; done) | rfl) ?_
  refine g_aloadN P0 d12_0 rfl rfl ?_
  refine g_getF (host := "") P0 d12_1 (Or.inl (hw _ (List.mem_of_getElem? (i := 52) rfl))) Via.refl F.f_size fun T117 P117 => ?_
  exact g_retI P117 d12_4 (by decide) (by decide) ⟨rfl, rfl⟩
set_option maxRecDepth 65536 in
set_option maxHeartbeats 40000000 in
theorem rm_length (l : Launch) (Z : State) (a0 : Array Value) (hw : ∀ d ∈ tables_1, d.before a0 Z = true) (h0 : Heap) (n0 : Nat) (n1 : Nat) (a tx sa ea da : Addr) (kt ks ke kd : ClassId) (t st en dq : List Int32) (rv bo : Int32) (av sv iv x0 x1 : Int32) (i : Nat) (F : RO Z h0 a tx sa ea da av rv bo sv) (A : RA Z h0 tx sa ea da kt ks ke kd t st en dq) (I1 : Ix iv i) (g0 : st[i]? = some x0) (g1 : en[i]? = some x1) :
    Met l Z (⟨"com/example/lintel/lintel/io/CsvReader", "length", "(I)I"⟩ : MethodName) prog_1_method_6_code 2 (some .int) ({ frames := 0, cells := 0, slots := 0, locals := 0 } : Room) n0 #[(.ref a), (.int iv)] h0 (fun v h => v = some (.int (x1 - x0)) ∧ h0 = h) := by
  refine Met.intro (by decide +kernel) ?_
  intro p e s m below meth cc T0 P0
  refine Go.cast (g' := mkF m 0 #[.val (.ref a), .val (.int iv)] []) (by first | (simp [entryFrame, mkF, argsToLocals, Value.category, maxLocals]; done) | rfl) ?_
  refine g_aloadN P0 d13_0 rfl rfl ?_
  refine g_getF (host := "") P0 d13_1 (Or.inl (hw _ (List.mem_of_getElem? (i := 17) rfl))) Via.refl F.f_ends fun T118 P118 => ?_
  refine g_iloadN P118 d13_4 rfl ?_
  refine g_iaload (i := i) (v := (.int x1)) P118 d13_5 A.2.2.1 I1 (map_get g1) ?_
  refine g_aloadN P118 d13_6 rfl rfl ?_
  refine g_getF (host := "") P118 d13_7 (Or.inl (hw _ (List.mem_of_getElem? (i := 15) rfl))) Via.refl F.f_starts fun T119 P119 => ?_
  refine g_iloadN P119 d13_10 rfl ?_
  refine g_iaload (i := i) (v := (.int x0)) P119 d13_11 A.2.1 I1 (map_get g0) ?_
  refine g_isub (v := (x1 - x0)) P119 d13_12 rfl ?_
  exact g_retI P119 d13_13 (by decide) (by decide) ⟨rfl, rfl⟩
def EndAt (t : List Int32) (f : Nat) : Prop := f = 32 ∨ t[f]? = some 10 ∨ (t[f]? = some 13 ∧ t[f + 1]? = some 10)
def Rec (t : List Int32) : Nat → List (Nat × Nat × Nat) → Prop
  | _, [] => False
  | b, [x] => FieldAt t b x.1 x.2.1 x.2.2 ∧ x.2.2 ≤ 32 ∧ EndAt t x.2.2
  | b, x :: y :: r => FieldAt t b x.1 x.2.1 x.2.2 ∧ t[x.2.2]? = some 44 ∧ Rec t (x.2.2 + 1) (y :: r)
def Gets (st en : List Int32) (fs : List (Nat × Nat × Nat)) : Prop := ∀ (i : Nat) (x : Nat × Nat × Nat), fs[i]? = some x → st[i]? = some (iN x.1) ∧ en[i]? = some (iN x.2.1)
theorem Gets.snoc {st en : List Int32} {fs : List (Nat × Nat × Nat)} (G : Gets st en fs) (x : Nat × Nat × Nat) (h1 : fs.length < st.length) (h2 : fs.length < en.length) : Gets (st.set fs.length (iN x.1)) (en.set fs.length (iN x.2.1)) (fs ++ [x]) := fun i y hy => by
  by_cases e : i = fs.length
  · subst e
    rw [List.getElem?_append_right (Nat.le_refl _), Nat.sub_self] at hy
    cases hy
    rw [List.getElem?_set_self h1, List.getElem?_set_self h2]; exact ⟨rfl, rfl⟩
  · have hi : i < fs.length := by have := (List.getElem?_eq_some_iff.mp hy).1; rw [List.length_append, List.length_singleton] at this; omega
    rw [List.getElem?_append_left hi] at hy
    rw [List.getElem?_set_ne (Ne.symm e), List.getElem?_set_ne (Ne.symm e)]; exact G i y hy
/-- what a field's end looks like: the comma, or the record's end -/
def Aft (t : List Int32) (f : Nat) : Prop := t[f]? = some 44 ∨ (f ≤ 32 ∧ EndAt t f)
theorem aft_nq {t : List Int32} {f : Nat} (hl : t.length = 32) (A : Aft t f) : t[f]? ≠ some 34 := fun q => by
  rcases A with r | ⟨-, r | r | r⟩
  · rw [r] at q; cases q
  · subst r; rw [List.getElem?_eq_none (by omega)] at q; cases q
  · rw [r] at q; cases q
  · rw [r.1] at q; cases q
theorem aft_le {t : List Int32} {f : Nat} (hl : t.length = 32) (A : Aft t f) : f ≤ 32 := by
  rcases A with r | r
  · have := lt_some r; omega
  · exact r.1
set_option maxRecDepth 65536 in
set_option maxHeartbeats 40000000 in
theorem rm_next (l : Launch) (Z : State) (a0 : Array Value) (hw : ∀ d ∈ tables_1, d.before a0 Z = true) (h0 : Heap) (n0 : Nat) (n1 : Nat) (a tx sa ea da : Addr) (kt ks ke kd : ClassId) (t st en dq : List Int32) (rv bo : Int32) (sv : Int32) (all : List (Nat × Nat × Nat)) (g10 : n0 ≤ n1) (F : RO Z h0 a tx sa ea da (iN 0) rv bo sv) (A : RA Z h0 tx sa ea da kt ks ke kd t st en dq) (hB : AllB t) (D1 : Dis n1 a tx sa ea da) (hbo : ¬ bo < 0) (hR : Rec t 0 all) (hall3 : all.length ≤ 3) :
    Met l Z (⟨"com/example/lintel/lintel/io/CsvReader", "next", "()Z"⟩ : MethodName) prog_1_method_2_code 2 (some .boolean) ({ frames := 2, cells := 0, slots := 0, locals := 60 } : Room) n0 #[(.ref a)] h0 (fun v h => v = some (.int 1) ∧ ∃ av' rv' bo' st' en' dq', RO Z h a tx sa ea da av' rv' bo' (iN all.length) ∧ RA Z h tx sa ea da kt ks ke kd t st' en' dq' ∧ Gets st' en' all ∧ Below n1 h0 h) := by
  refine Met.intro (by decide +kernel) ?_
  intro p e s m below meth cc T0 P0
  refine Go.cast (g' := mkF m 0 #[.val (.ref a), .unset] []) (by first | (simp [entryFrame, mkF, argsToLocals, Value.category, maxLocals]; done) | rfl) ?_
  have turn : ∀ (done : List (Nat × Nat × Nat)) (T : State) (h : Heap) (o1 : Slot) (rv bo : Int32) (st en dq : List Int32) (b : Nat) (x : Nat × Nat × Nat), (o1 = .unset ∨ ∃ w, o1 = .val (.int w)) → Pl p l e ({ frames := 2, cells := 0, slots := 0, locals := 60 } : Room) s m #[(.ref a)] below meth cc Z (⟨"com/example/lintel/lintel/io/CsvReader", "next", "()Z"⟩ : MethodName) prog_1_method_2_code 2 (some .boolean) n0 T h (0) (0) → ¬ bo < 0 → RO Z h a tx sa ea da (iN b) rv bo (iN done.length) → RA Z h tx sa ea da kt ks ke kd t st en dq → Below n1 h0 h → done.length < 60 → FieldAt t b x.1 x.2.1 x.2.2 → Aft t x.2.2 → (∀ (T : State) (h : Heap) (bo : Int32) (st' en' dq : List Int32), st' = st.set done.length (iN x.1) → en' = en.set done.length (iN x.2.1) → Pl p l e ({ frames := 2, cells := 0, slots := 0, locals := 60 } : Room) s m #[(.ref a)] below meth cc Z (⟨"com/example/lintel/lintel/io/CsvReader", "next", "()Z"⟩ : MethodName) prog_1_method_2_code 2 (some .boolean) n0 T h (0) (0) → ¬ bo < 0 → RO Z h a tx sa ea da (iN x.2.2) rv bo (iN (done.length + 1)) → RA Z h tx sa ea da kt ks ke kd t st' en' dq → Below n1 h0 h → Go p e below (Done s ({ frames := 2, cells := 0, slots := 0, locals := 60 } : Room) n0 (fun v h => v = some (.int 1) ∧ ∃ av' rv' bo' st' en' dq', RO Z h a tx sa ea da av' rv' bo' (iN all.length) ∧ RA Z h tx sa ea da kt ks ke kd t st' en' dq' ∧ Gets st' en' all ∧ Below n1 h0 h)) (T.setTop (mkF m 137 #[.val (.ref a), o1] []))) → Go p e below (Done s ({ frames := 2, cells := 0, slots := 0, locals := 60 } : Room) n0 (fun v h => v = some (.int 1) ∧ ∃ av' rv' bo' st' en' dq', RO Z h a tx sa ea da av' rv' bo' (iN all.length) ∧ RA Z h tx sa ea da kt ks ke kd t st' en' dq' ∧ Gets st' en' all ∧ Below n1 h0 h)) (T.setTop (mkF m 28 #[.val (.ref a), o1] [])) := by
    intro done T h o1 rv bo st en dq b x ho P hbo F A B hd hF hA G
    have lt := A.2.2.2.2.1
    obtain ⟨s0, e0, f0⟩ := x
    change FieldAt t b s0 e0 f0 at hF
    change Aft t f0 at hA
    have hf32 := aft_le lt hA
    refine g_aloadN P d8_28 rfl rfl ?_
    refine g_getF (host := "") P d8_29 (Or.inl (hw _ (List.mem_of_getElem? (i := 52) rfl))) Via.refl F.f_size fun T120 P120 => ?_
    refine g_aloadN P120 d8_32 rfl rfl ?_
    refine g_getF (host := "") P120 d8_33 (Or.inl (hw _ (List.mem_of_getElem? (i := 15) rfl))) Via.refl F.f_starts fun T121 P121 => ?_
    refine g_arraylength (z := (64 : Int32)) P121 d8_36 A.2.1 (by rw [List.length_map, A.2.2.2.2.2.1]; rfl) ?_
    refine g_icmpYes P121 d8_37 (feq (neN (k := 64) (by omega) (by omega) (by omega))).2 91 (by decide) (by decide) ?_
    refine g_aloadN P121 d8_91 rfl rfl ?_
    refine g_getF (host := "") P121 d8_92 (Or.inl (hw _ (List.mem_of_getElem? (i := 43) rfl))) Via.refl F.f_at fun T122 P122 => ?_
    refine g_aloadN P122 d8_95 rfl rfl ?_
    refine g_getF (host := "") P122 d8_96 (Or.inl (hw _ (List.mem_of_getElem? (i := 24) rfl))) Via.refl F.f_length fun T123 P123 => ?_
    rcases hF with ⟨hq, rfl, hs, he, rfl⟩ | ⟨rfl, hs, rfl⟩
    · have hs : QSeg t (b + 1) e0 := hs
      have h1 : b < 32 := by have := lt_some hq; omega
      have hnq := aft_nq lt hA
      refine g_icmpNo P123 d8_99 (tlt (lt32 h1)).2.1 ?_
      refine g_aloadN P123 d8_102 rfl rfl ?_
      refine g_getF (host := "") P123 d8_103 (Or.inl (hw _ (List.mem_of_getElem? (i := 22) rfl))) Via.refl F.f_text fun T124 P124 => ?_
      refine g_aloadN P124 d8_106 rfl rfl ?_
      refine g_getF (host := "") P124 d8_107 (Or.inl (hw _ (List.mem_of_getElem? (i := 43) rfl))) Via.refl F.f_at fun T125 P125 => ?_
      refine g_baload (i := b) (v := (.int (34 : Int32))) P125 d8_110 A.1 (ix_iN (by omega)) (map_get hq) ?_
      refine g_bipush (v := (34 : Int32)) P125 d8_111 (by rfl) ?_
      refine g_icmpNo P125 d8_113 (by decide) ?_
      refine g_aloadN P125 d8_116 rfl rfl ?_
      refine g_private P125 a [] (rest := []) (W := 0) d8_117 (hw _ (List.mem_of_getElem? (i := 81) rfl)) (hw _ (List.mem_of_getElem? (i := 83) rfl)) (hw _ (List.mem_of_getElem? (i := 48) rfl)) rfl (hw _ (List.mem_of_getElem? (i := 82) rfl)) (hw _ (List.mem_of_getElem? (i := 8) rfl)) (hw _ (List.mem_of_getElem? (i := 84) rfl)) (by decide) F.exa (rm_quoted l Z a0 hw _ n0 n1 a tx sa ea da kt ks ke kd t _ _ _ _ _ b done.length e0 g10 F A hB D1 hbo (by omega) (by have := lt_some he; omega) hs he hnq) pd_1 rfl rfl rfl rfl (by decide) (by decide) (by decide) (by decide) fun v126 T126 h126 P126 q126 => ?_
      obtain ⟨rfl, bo', dq', hbo, F, A, B'⟩ := q126
      have B := B.trans B'
      refine g_goto P126 d8_120 127 (by decide) (by decide) ?_
      refine g_aloadN P126 d8_127 rfl rfl ?_
      refine g_dup P126 d8_128 rfl ?_
      refine g_getF (host := "") P126 d8_129 (Or.inl (hw _ (List.mem_of_getElem? (i := 52) rfl))) Via.refl F.f_size fun T127 P127 => ?_
      refine g_iconst (v := (1 : Int32)) P127 d8_132 (by rfl) ?_
      refine g_iadd (v := (iN (done.length + 1))) P127 d8_133 (iN_add _ 1) ?_
      refine g_putF (host := "") P127 d8_134 (Or.inl (hw _ (List.mem_of_getElem? (i := 52) rfl))) Via.refl F.f_size F.exa (Or.inl (hw _ (List.mem_of_getElem? (i := 53) rfl))) (hw _ (List.mem_of_getElem? (i := 7) rfl)) (ty := .int) (by decide) rfl rfl (by have := D1.2; omega) fun T128 h128 P128 W128 => ?_
      exact G _ _ _ _ _ _ rfl rfl P128 hbo (F.set_size hw W128) (A.sat D1 W128) (B.wr W128 D1.2.1)
    · have hs : PSeg t s0 f0 := hs
      have hend : f0 = 32 ∨ ∃ c, t[f0]? = some c ∧ (c = 44 ∨ c = 10 ∨ (c = 13 ∧ t[f0 + 1]? = some 10)) := by
        rcases hA with r | ⟨-, r | r | r⟩
        · exact Or.inr ⟨_, r, Or.inl rfl⟩
        · exact Or.inl r
        · exact Or.inr ⟨_, r, Or.inr (Or.inl rfl)⟩
        · exact Or.inr ⟨_, r.1, Or.inr (Or.inr ⟨rfl, r.2⟩)⟩
      have hle := hs.le
      by_cases h1 : s0 < 32
      · refine g_icmpNo P123 d8_99 (tlt (lt32 h1)).2.1 ?_
        refine g_aloadN P123 d8_102 rfl rfl ?_
        refine g_getF (host := "") P123 d8_103 (Or.inl (hw _ (List.mem_of_getElem? (i := 22) rfl))) Via.refl F.f_text fun T129 P129 => ?_
        refine g_aloadN P129 d8_106 rfl rfl ?_
        refine g_getF (host := "") P129 d8_107 (Or.inl (hw _ (List.mem_of_getElem? (i := 43) rfl))) Via.refl F.f_at fun T130 P130 => ?_
        obtain ⟨c, hc⟩ := get_of (t := t) (i := s0) (by omega)
        have hn : ¬ c = 34 := fun q => hs.first (aft_nq lt hA) (by rw [hc, q])
        refine g_baload (i := s0) (v := (.int c)) P130 d8_110 A.1 (ix_iN (by omega)) (map_get hc) ?_
        refine g_bipush (v := (34 : Int32)) P130 d8_111 (by rfl) ?_
        refine g_icmpYes P130 d8_113 (feq hn).2 123 (by decide) (by decide) ?_
        refine g_aloadN P130 d8_123 rfl rfl ?_
        refine g_private P130 a [] (rest := []) (W := 0) d8_124 (hw _ (List.mem_of_getElem? (i := 54) rfl)) (hw _ (List.mem_of_getElem? (i := 56) rfl)) (hw _ (List.mem_of_getElem? (i := 48) rfl)) rfl (hw _ (List.mem_of_getElem? (i := 55) rfl)) (hw _ (List.mem_of_getElem? (i := 8) rfl)) (hw _ (List.mem_of_getElem? (i := 57) rfl)) (by decide) F.exa (rm_plain l Z a0 hw _ n0 n1 a tx sa ea da kt ks ke kd t _ _ _ _ _ s0 done.length f0 g10 F A hB D1 hbo (by omega) (by omega) hs hend) pd_1 rfl rfl rfl rfl (by decide) (by decide) (by decide) (by decide) fun v131 T131 h131 P131 q131 => ?_
        obtain ⟨rfl, bo', dq', hbo, F, A, B'⟩ := q131
        have B := B.trans B'
        refine g_aloadN P131 d8_127 rfl rfl ?_
        refine g_dup P131 d8_128 rfl ?_
        refine g_getF (host := "") P131 d8_129 (Or.inl (hw _ (List.mem_of_getElem? (i := 52) rfl))) Via.refl F.f_size fun T132 P132 => ?_
        refine g_iconst (v := (1 : Int32)) P132 d8_132 (by rfl) ?_
        refine g_iadd (v := (iN (done.length + 1))) P132 d8_133 (iN_add _ 1) ?_
        refine g_putF (host := "") P132 d8_134 (Or.inl (hw _ (List.mem_of_getElem? (i := 52) rfl))) Via.refl F.f_size F.exa (Or.inl (hw _ (List.mem_of_getElem? (i := 53) rfl))) (hw _ (List.mem_of_getElem? (i := 7) rfl)) (ty := .int) (by decide) rfl rfl (by have := D1.2; omega) fun T133 h133 P133 W133 => ?_
        exact G _ _ _ _ _ _ rfl rfl P133 hbo (F.set_size hw W133) (A.sat D1 W133) (B.wr W133 D1.2.1)
      · refine g_icmpYes P123 d8_99 (flt (nlt32 (by omega) (by omega))).2.1 123 (by decide) (by decide) ?_
        refine g_aloadN P123 d8_123 rfl rfl ?_
        refine g_private P123 a [] (rest := []) (W := 0) d8_124 (hw _ (List.mem_of_getElem? (i := 54) rfl)) (hw _ (List.mem_of_getElem? (i := 56) rfl)) (hw _ (List.mem_of_getElem? (i := 48) rfl)) rfl (hw _ (List.mem_of_getElem? (i := 55) rfl)) (hw _ (List.mem_of_getElem? (i := 8) rfl)) (hw _ (List.mem_of_getElem? (i := 57) rfl)) (by decide) F.exa (rm_plain l Z a0 hw _ n0 n1 a tx sa ea da kt ks ke kd t _ _ _ _ _ s0 done.length f0 g10 F A hB D1 hbo (by omega) (by omega) hs hend) pd_1 rfl rfl rfl rfl (by decide) (by decide) (by decide) (by decide) fun v134 T134 h134 P134 q134 => ?_
        obtain ⟨rfl, bo', dq', hbo, F, A, B'⟩ := q134
        have B := B.trans B'
        refine g_aloadN P134 d8_127 rfl rfl ?_
        refine g_dup P134 d8_128 rfl ?_
        refine g_getF (host := "") P134 d8_129 (Or.inl (hw _ (List.mem_of_getElem? (i := 52) rfl))) Via.refl F.f_size fun T135 P135 => ?_
        refine g_iconst (v := (1 : Int32)) P135 d8_132 (by rfl) ?_
        refine g_iadd (v := (iN (done.length + 1))) P135 d8_133 (iN_add _ 1) ?_
        refine g_putF (host := "") P135 d8_134 (Or.inl (hw _ (List.mem_of_getElem? (i := 52) rfl))) Via.refl F.f_size F.exa (Or.inl (hw _ (List.mem_of_getElem? (i := 53) rfl))) (hw _ (List.mem_of_getElem? (i := 7) rfl)) (ty := .int) (by decide) rfl rfl (by have := D1.2; omega) fun T136 h136 P136 W136 => ?_
        exact G _ _ _ _ _ _ rfl rfl P136 hbo (F.set_size hw W136) (A.sat D1 W136) (B.wr W136 D1.2.1)
  have loop : ∀ (fs done : List (Nat × Nat × Nat)) (T : State) (h : Heap) (o1 : Slot) (rv bo : Int32) (st en dq : List Int32) (b : Nat), (o1 = .unset ∨ ∃ w, o1 = .val (.int w)) → Pl p l e ({ frames := 2, cells := 0, slots := 0, locals := 60 } : Room) s m #[(.ref a)] below meth cc Z (⟨"com/example/lintel/lintel/io/CsvReader", "next", "()Z"⟩ : MethodName) prog_1_method_2_code 2 (some .boolean) n0 T h (0) (0) → ¬ bo < 0 → RO Z h a tx sa ea da (iN b) rv bo (iN done.length) → RA Z h tx sa ea da kt ks ke kd t st en dq → Below n1 h0 h → done.length + fs.length ≤ 60 → Rec t b fs → done ++ fs = all → Gets st en done → Go p e below (Done s ({ frames := 2, cells := 0, slots := 0, locals := 60 } : Room) n0 (fun v h => v = some (.int 1) ∧ ∃ av' rv' bo' st' en' dq', RO Z h a tx sa ea da av' rv' bo' (iN all.length) ∧ RA Z h tx sa ea da kt ks ke kd t st' en' dq' ∧ Gets st' en' all ∧ Below n1 h0 h)) (T.setTop (mkF m 28 #[.val (.ref a), o1] [])) := by
    intro fs
    induction fs with
    | nil => intro done T h o1 rv bo st en dq b ho P hbo F A B hd hR; exact absurd hR id
    | cons x r ih =>
      intro done T h o1 rv bo st en dq b ho P hbo F A B hd hR hall hG
      have lt := A.2.2.2.2.1
      have l64 := A.2.2.2.2.2
      obtain ⟨hF, hA⟩ : FieldAt t b x.1 x.2.1 x.2.2 ∧ ((t[x.2.2]? = some 44 ∧ r ≠ [] ∧ Rec t (x.2.2 + 1) r) ∨ (r = [] ∧ x.2.2 ≤ 32 ∧ EndAt t x.2.2)) := by
        cases r with
        | nil => exact ⟨hR.1, Or.inr ⟨rfl, hR.2⟩⟩
        | cons y r => exact ⟨hR.1, Or.inl ⟨hR.2.1, by simp, hR.2.2⟩⟩
      refine turn done T h o1 rv bo st en dq b x ho P hbo F A B (by simp at hd; omega) hF (hA.imp (·.1) (·.2)) ?_
      rintro T h bo _ _ dq rfl rfl P hbo F A B
      have hG := hG.snoc x (by omega) (by omega)
      rcases hA with ⟨hc, hne, hR⟩ | ⟨rfl, hle, hE⟩
      · have h1 : x.2.2 < 32 := by have := lt_some hc; omega
        refine g_aloadN P d8_137 rfl rfl ?_
        refine g_private P a [] (rest := []) (W := 0) d8_138 (hw _ (List.mem_of_getElem? (i := 64) rfl)) (hw _ (List.mem_of_getElem? (i := 66) rfl)) (hw _ (List.mem_of_getElem? (i := 48) rfl)) rfl (hw _ (List.mem_of_getElem? (i := 65) rfl)) (hw _ (List.mem_of_getElem? (i := 8) rfl)) (hw _ (List.mem_of_getElem? (i := 67) rfl)) (by decide) F.exa (rm_lb l Z a0 hw _ n0 n1 a tx sa ea da kt ks ke kd t _ _ _ _ _ _ x.2.2 0 F A (Or.inr (Or.inr (Or.inr ⟨hc, rfl⟩)))) pd_2 rfl rfl rfl rfl (by decide) (by decide) (by decide) (by decide) fun v137 T137 h137 P137 q137 => ?_
        obtain ⟨rfl, rfl⟩ := q137
        refine g_istoreN P137 d8_141 #[.val (.ref a), .val (.int (0 : Int32))] (by rcases ho with rfl | ⟨w, rfl⟩ <;> rfl) ?_
        refine g_aloadN P137 d8_142 rfl rfl ?_
        refine g_getF (host := "") P137 d8_143 (Or.inl (hw _ (List.mem_of_getElem? (i := 43) rfl))) Via.refl F.f_at fun T138 P138 => ?_
        refine g_aloadN P138 d8_146 rfl rfl ?_
        refine g_getF (host := "") P138 d8_147 (Or.inl (hw _ (List.mem_of_getElem? (i := 24) rfl))) Via.refl F.f_length fun T139 P139 => ?_
        refine g_icmpNo P139 d8_150 (tlt (lt32 h1)).2.1 ?_
        refine g_aloadN P139 d8_153 rfl rfl ?_
        refine g_getF (host := "") P139 d8_154 (Or.inl (hw _ (List.mem_of_getElem? (i := 22) rfl))) Via.refl F.f_text fun T140 P140 => ?_
        refine g_aloadN P140 d8_157 rfl rfl ?_
        refine g_getF (host := "") P140 d8_158 (Or.inl (hw _ (List.mem_of_getElem? (i := 43) rfl))) Via.refl F.f_at fun T141 P141 => ?_
        refine g_baload (i := x.2.2) (v := (.int (44 : Int32))) P141 d8_161 A.1 (ix_iN (by omega)) (map_get hc) ?_
        refine g_bipush (v := (44 : Int32)) P141 d8_162 (by rfl) ?_
        refine g_icmpNo P141 d8_164 (by decide) ?_
        refine g_aloadN P141 d8_167 rfl rfl ?_
        refine g_dup P141 d8_168 rfl ?_
        refine g_getF (host := "") P141 d8_169 (Or.inl (hw _ (List.mem_of_getElem? (i := 43) rfl))) Via.refl F.f_at fun T142 P142 => ?_
        refine g_iconst (v := (1 : Int32)) P142 d8_172 (by rfl) ?_
        refine g_iadd (v := (iN (x.2.2 + 1))) P142 d8_173 (iN_add _ 1) ?_
        refine g_putF (host := "") P142 d8_174 (Or.inl (hw _ (List.mem_of_getElem? (i := 43) rfl))) Via.refl F.f_at F.exa (Or.inl (hw _ (List.mem_of_getElem? (i := 44) rfl))) (hw _ (List.mem_of_getElem? (i := 7) rfl)) (ty := .int) (by decide) rfl rfl (by have := D1.2; omega) fun T143 h143 P143 W143 => ?_
        refine g_goto P143 d8_177 215 (by decide) (by decide) ?_
        refine g_goto P143 d8_215 28 (by decide) (by decide) ?_
        exact ih (done ++ [x]) _ _ _ _ _ _ _ _ _ (Or.inr ⟨_, rfl⟩) P143 hbo (by rw [List.length_append]; exact F.set_at hw W143) (A.sat D1 W143) (B.wr W143 D1.2.1) (by simp at hd ⊢; omega) hR (by rw [← hall, List.append_assoc]; rfl) hG
      · rcases hE with hE | hE | hE
        · refine g_aloadN P d8_137 rfl rfl ?_
          refine g_private P a [] (rest := []) (W := 0) d8_138 (hw _ (List.mem_of_getElem? (i := 64) rfl)) (hw _ (List.mem_of_getElem? (i := 66) rfl)) (hw _ (List.mem_of_getElem? (i := 48) rfl)) rfl (hw _ (List.mem_of_getElem? (i := 65) rfl)) (hw _ (List.mem_of_getElem? (i := 8) rfl)) (hw _ (List.mem_of_getElem? (i := 67) rfl)) (by decide) F.exa (rm_lb l Z a0 hw _ n0 n1 a tx sa ea da kt ks ke kd t _ _ _ _ _ _ x.2.2 0 F A (Or.inr (Or.inr (Or.inl ⟨hE, rfl⟩)))) pd_2 rfl rfl rfl rfl (by decide) (by decide) (by decide) (by decide) fun v144 T144 h144 P144 q144 => ?_
          obtain ⟨rfl, rfl⟩ := q144
          refine g_istoreN P144 d8_141 #[.val (.ref a), .val (.int (0 : Int32))] (by rcases ho with rfl | ⟨w, rfl⟩ <;> rfl) ?_
          refine g_aloadN P144 d8_142 rfl rfl ?_
          refine g_getF (host := "") P144 d8_143 (Or.inl (hw _ (List.mem_of_getElem? (i := 43) rfl))) Via.refl F.f_at fun T145 P145 => ?_
          refine g_aloadN P145 d8_146 rfl rfl ?_
          refine g_getF (host := "") P145 d8_147 (Or.inl (hw _ (List.mem_of_getElem? (i := 24) rfl))) Via.refl F.f_length fun T146 P146 => ?_
          refine g_icmpYes P146 d8_150 (flt (nlt32 (by omega) (by omega))).2.1 180 (by decide) (by decide) ?_
          refine g_iloadN P146 d8_180 rfl ?_
          refine g_ifNo P146 d8_181 (by decide) ?_
          refine g_aloadN P146 d8_184 rfl rfl ?_
          refine g_getF (host := "") P146 d8_185 (Or.inl (hw _ (List.mem_of_getElem? (i := 43) rfl))) Via.refl F.f_at fun T147 P147 => ?_
          refine g_aloadN P147 d8_188 rfl rfl ?_
          refine g_getF (host := "") P147 d8_189 (Or.inl (hw _ (List.mem_of_getElem? (i := 24) rfl))) Via.refl F.f_length fun T148 P148 => ?_
          refine g_icmpNo P148 d8_192 (teq (by rw [hE]; rfl)).2 ?_
          refine g_aloadN P148 d8_195 rfl rfl ?_
          refine g_dup P148 d8_196 rfl ?_
          refine g_getF (host := "") P148 d8_197 (Or.inl (hw _ (List.mem_of_getElem? (i := 43) rfl))) Via.refl F.f_at fun T149 P149 => ?_
          refine g_iloadN P149 d8_200 rfl ?_
          refine g_iadd (v := (iN (x.2.2 + 0))) P149 d8_201 (iN_add _ 0) ?_
          refine g_putF (host := "") P149 d8_202 (Or.inl (hw _ (List.mem_of_getElem? (i := 43) rfl))) Via.refl F.f_at F.exa (Or.inl (hw _ (List.mem_of_getElem? (i := 44) rfl))) (hw _ (List.mem_of_getElem? (i := 7) rfl)) (ty := .int) (by decide) rfl rfl (by have := D1.2; omega) fun T150 h150 P150 W150 => ?_
          have F := F.set_at hw W150
          have A := A.sat D1 W150
          have B := B.wr W150 D1.2.1
          refine g_goto P150 d8_205 218 (by decide) (by decide) ?_
          refine g_aloadN P150 d8_218 rfl rfl ?_
          refine g_getF (host := "") P150 d8_219 (Or.inl (hw _ (List.mem_of_getElem? (i := 62) rfl))) Via.refl F.f_bytesOr fun T151 P151 => ?_
          refine g_ifYes P151 d8_222 ((if0 _ _).trans (flt hbo).2.1) 245 (by decide) (by decide) ?_
          refine g_iconst (v := (1 : Int32)) P151 d8_245 (by rfl) ?_
          have hl : all.length = done.length + 1 := by rw [← hall, List.length_append]; rfl
          exact g_retZ P151 d8_246 (by decide) (by decide) (by decide) ⟨rfl, _, _, _, _, _, _, (by rw [hl]; exact F), A, (by rw [← hall]; exact hG), B⟩
        · have h1 : x.2.2 < 32 := by have := lt_some hE; omega
          refine g_aloadN P d8_137 rfl rfl ?_
          refine g_private P a [] (rest := []) (W := 0) d8_138 (hw _ (List.mem_of_getElem? (i := 64) rfl)) (hw _ (List.mem_of_getElem? (i := 66) rfl)) (hw _ (List.mem_of_getElem? (i := 48) rfl)) rfl (hw _ (List.mem_of_getElem? (i := 65) rfl)) (hw _ (List.mem_of_getElem? (i := 8) rfl)) (hw _ (List.mem_of_getElem? (i := 67) rfl)) (by decide) F.exa (rm_lb l Z a0 hw _ n0 n1 a tx sa ea da kt ks ke kd t _ _ _ _ _ _ x.2.2 1 F A (Or.inr (Or.inl ⟨hE, rfl⟩))) pd_2 rfl rfl rfl rfl (by decide) (by decide) (by decide) (by decide) fun v152 T152 h152 P152 q152 => ?_
          obtain ⟨rfl, rfl⟩ := q152
          refine g_istoreN P152 d8_141 #[.val (.ref a), .val (.int (1 : Int32))] (by rcases ho with rfl | ⟨w, rfl⟩ <;> rfl) ?_
          refine g_aloadN P152 d8_142 rfl rfl ?_
          refine g_getF (host := "") P152 d8_143 (Or.inl (hw _ (List.mem_of_getElem? (i := 43) rfl))) Via.refl F.f_at fun T153 P153 => ?_
          refine g_aloadN P153 d8_146 rfl rfl ?_
          refine g_getF (host := "") P153 d8_147 (Or.inl (hw _ (List.mem_of_getElem? (i := 24) rfl))) Via.refl F.f_length fun T154 P154 => ?_
          refine g_icmpNo P154 d8_150 (tlt (lt32 h1)).2.1 ?_
          refine g_aloadN P154 d8_153 rfl rfl ?_
          refine g_getF (host := "") P154 d8_154 (Or.inl (hw _ (List.mem_of_getElem? (i := 22) rfl))) Via.refl F.f_text fun T155 P155 => ?_
          refine g_aloadN P155 d8_157 rfl rfl ?_
          refine g_getF (host := "") P155 d8_158 (Or.inl (hw _ (List.mem_of_getElem? (i := 43) rfl))) Via.refl F.f_at fun T156 P156 => ?_
          refine g_baload (i := x.2.2) (v := (.int (10 : Int32))) P156 d8_161 A.1 (ix_iN (by omega)) (map_get hE) ?_
          refine g_bipush (v := (44 : Int32)) P156 d8_162 (by rfl) ?_
          refine g_icmpYes P156 d8_164 (by decide) 180 (by decide) (by decide) ?_
          refine g_iloadN P156 d8_180 rfl ?_
          refine g_ifYes P156 d8_181 (by decide) 195 (by decide) (by decide) ?_
          refine g_aloadN P156 d8_195 rfl rfl ?_
          refine g_dup P156 d8_196 rfl ?_
          refine g_getF (host := "") P156 d8_197 (Or.inl (hw _ (List.mem_of_getElem? (i := 43) rfl))) Via.refl F.f_at fun T157 P157 => ?_
          refine g_iloadN P157 d8_200 rfl ?_
          refine g_iadd (v := (iN (x.2.2 + 1))) P157 d8_201 (iN_add _ 1) ?_
          refine g_putF (host := "") P157 d8_202 (Or.inl (hw _ (List.mem_of_getElem? (i := 43) rfl))) Via.refl F.f_at F.exa (Or.inl (hw _ (List.mem_of_getElem? (i := 44) rfl))) (hw _ (List.mem_of_getElem? (i := 7) rfl)) (ty := .int) (by decide) rfl rfl (by have := D1.2; omega) fun T158 h158 P158 W158 => ?_
          have F := F.set_at hw W158
          have A := A.sat D1 W158
          have B := B.wr W158 D1.2.1
          refine g_goto P158 d8_205 218 (by decide) (by decide) ?_
          refine g_aloadN P158 d8_218 rfl rfl ?_
          refine g_getF (host := "") P158 d8_219 (Or.inl (hw _ (List.mem_of_getElem? (i := 62) rfl))) Via.refl F.f_bytesOr fun T159 P159 => ?_
          refine g_ifYes P159 d8_222 ((if0 _ _).trans (flt hbo).2.1) 245 (by decide) (by decide) ?_
          refine g_iconst (v := (1 : Int32)) P159 d8_245 (by rfl) ?_
          have hl : all.length = done.length + 1 := by rw [← hall, List.length_append]; rfl
          exact g_retZ P159 d8_246 (by decide) (by decide) (by decide) ⟨rfl, _, _, _, _, _, _, (by rw [hl]; exact F), A, (by rw [← hall]; exact hG), B⟩
        · have h1 : x.2.2 < 32 := by have := lt_some hE.1; omega
          refine g_aloadN P d8_137 rfl rfl ?_
          refine g_private P a [] (rest := []) (W := 0) d8_138 (hw _ (List.mem_of_getElem? (i := 64) rfl)) (hw _ (List.mem_of_getElem? (i := 66) rfl)) (hw _ (List.mem_of_getElem? (i := 48) rfl)) rfl (hw _ (List.mem_of_getElem? (i := 65) rfl)) (hw _ (List.mem_of_getElem? (i := 8) rfl)) (hw _ (List.mem_of_getElem? (i := 67) rfl)) (by decide) F.exa (rm_lb l Z a0 hw _ n0 n1 a tx sa ea da kt ks ke kd t _ _ _ _ _ _ x.2.2 2 F A (Or.inl ⟨hE.1, hE.2, rfl⟩)) pd_2 rfl rfl rfl rfl (by decide) (by decide) (by decide) (by decide) fun v160 T160 h160 P160 q160 => ?_
          obtain ⟨rfl, rfl⟩ := q160
          refine g_istoreN P160 d8_141 #[.val (.ref a), .val (.int (2 : Int32))] (by rcases ho with rfl | ⟨w, rfl⟩ <;> rfl) ?_
          refine g_aloadN P160 d8_142 rfl rfl ?_
          refine g_getF (host := "") P160 d8_143 (Or.inl (hw _ (List.mem_of_getElem? (i := 43) rfl))) Via.refl F.f_at fun T161 P161 => ?_
          refine g_aloadN P161 d8_146 rfl rfl ?_
          refine g_getF (host := "") P161 d8_147 (Or.inl (hw _ (List.mem_of_getElem? (i := 24) rfl))) Via.refl F.f_length fun T162 P162 => ?_
          refine g_icmpNo P162 d8_150 (tlt (lt32 h1)).2.1 ?_
          refine g_aloadN P162 d8_153 rfl rfl ?_
          refine g_getF (host := "") P162 d8_154 (Or.inl (hw _ (List.mem_of_getElem? (i := 22) rfl))) Via.refl F.f_text fun T163 P163 => ?_
          refine g_aloadN P163 d8_157 rfl rfl ?_
          refine g_getF (host := "") P163 d8_158 (Or.inl (hw _ (List.mem_of_getElem? (i := 43) rfl))) Via.refl F.f_at fun T164 P164 => ?_
          refine g_baload (i := x.2.2) (v := (.int (13 : Int32))) P164 d8_161 A.1 (ix_iN (by omega)) (map_get hE.1) ?_
          refine g_bipush (v := (44 : Int32)) P164 d8_162 (by rfl) ?_
          refine g_icmpYes P164 d8_164 (by decide) 180 (by decide) (by decide) ?_
          refine g_iloadN P164 d8_180 rfl ?_
          refine g_ifYes P164 d8_181 (by decide) 195 (by decide) (by decide) ?_
          refine g_aloadN P164 d8_195 rfl rfl ?_
          refine g_dup P164 d8_196 rfl ?_
          refine g_getF (host := "") P164 d8_197 (Or.inl (hw _ (List.mem_of_getElem? (i := 43) rfl))) Via.refl F.f_at fun T165 P165 => ?_
          refine g_iloadN P165 d8_200 rfl ?_
          refine g_iadd (v := (iN (x.2.2 + 2))) P165 d8_201 (iN_add _ 2) ?_
          refine g_putF (host := "") P165 d8_202 (Or.inl (hw _ (List.mem_of_getElem? (i := 43) rfl))) Via.refl F.f_at F.exa (Or.inl (hw _ (List.mem_of_getElem? (i := 44) rfl))) (hw _ (List.mem_of_getElem? (i := 7) rfl)) (ty := .int) (by decide) rfl rfl (by have := D1.2; omega) fun T166 h166 P166 W166 => ?_
          have F := F.set_at hw W166
          have A := A.sat D1 W166
          have B := B.wr W166 D1.2.1
          refine g_goto P166 d8_205 218 (by decide) (by decide) ?_
          refine g_aloadN P166 d8_218 rfl rfl ?_
          refine g_getF (host := "") P166 d8_219 (Or.inl (hw _ (List.mem_of_getElem? (i := 62) rfl))) Via.refl F.f_bytesOr fun T167 P167 => ?_
          refine g_ifYes P167 d8_222 ((if0 _ _).trans (flt hbo).2.1) 245 (by decide) (by decide) ?_
          refine g_iconst (v := (1 : Int32)) P167 d8_245 (by rfl) ?_
          have hl : all.length = done.length + 1 := by rw [← hall, List.length_append]; rfl
          exact g_retZ P167 d8_246 (by decide) (by decide) (by decide) ⟨rfl, _, _, _, _, _, _, (by rw [hl]; exact F), A, (by rw [← hall]; exact hG), B⟩
  have B : Below n1 h0 h0 := Below.refl
  refine g_aloadN P0 d8_0 rfl rfl ?_
  refine g_getF (host := "") P0 d8_1 (Or.inl (hw _ (List.mem_of_getElem? (i := 43) rfl))) Via.refl F.f_at fun T168 P168 => ?_
  refine g_aloadN P168 d8_4 rfl rfl ?_
  refine g_getF (host := "") P168 d8_5 (Or.inl (hw _ (List.mem_of_getElem? (i := 24) rfl))) Via.refl F.f_length fun T169 P169 => ?_
  refine g_icmpYes P169 d8_8 (feq (neN (i := 0) (k := 32) (by omega) (by omega) (by omega))).2 13 (by decide) (by decide) ?_
  refine g_aloadN P169 d8_13 rfl rfl ?_
  refine g_dup P169 d8_14 rfl ?_
  refine g_getF (host := "") P169 d8_15 (Or.inl (hw _ (List.mem_of_getElem? (i := 50) rfl))) Via.refl F.f_row fun T170 P170 => ?_
  refine g_iconst (v := (1 : Int32)) P170 d8_18 (by rfl) ?_
  refine g_iadd (v := (rv + (1 : Int32))) P170 d8_19 rfl ?_
  refine g_putF (host := "") P170 d8_20 (Or.inl (hw _ (List.mem_of_getElem? (i := 50) rfl))) Via.refl F.f_row F.exa (Or.inl (hw _ (List.mem_of_getElem? (i := 51) rfl))) (hw _ (List.mem_of_getElem? (i := 7) rfl)) (ty := .int) (by decide) rfl rfl (by have := D1.2; omega) fun T171 h171 P171 W171 => ?_
  have F := F.set_row hw W171
  have A := A.sat D1 W171
  have B := B.wr W171 D1.2.1
  refine g_aloadN P171 d8_23 rfl rfl ?_
  refine g_iconst (v := (0 : Int32)) P171 d8_24 (by rfl) ?_
  refine g_putF (host := "") P171 d8_25 (Or.inl (hw _ (List.mem_of_getElem? (i := 52) rfl))) Via.refl F.f_size F.exa (Or.inl (hw _ (List.mem_of_getElem? (i := 53) rfl))) (hw _ (List.mem_of_getElem? (i := 7) rfl)) (ty := .int) (by decide) rfl rfl (by have := D1.2; omega) fun T172 h172 P172 W172 => ?_
  have F := F.set_size hw W172
  have A := A.sat D1 W172
  have B := B.wr W172 D1.2.1
  exact loop all [] _ _ _ _ _ _ _ _ 0 (Or.inl rfl) P172 hbo F A B (by simp; omega) hR rfl (fun i x q => by cases q)
set_option maxRecDepth 65536 in
set_option maxHeartbeats 40000000 in
theorem rm_range (l : Launch) (Z : State) (a0 : Array Value) (hw : ∀ d ∈ tables_1, d.before a0 Z = true) (h0 : Heap) (n0 : Nat) (x y z : Int32) (h1 : ¬ z < y) (h2 : ¬ y < 0) (h3 : ¬ x < z) :
    Met l Z (⟨"java/util/Arrays", "rangeCheck", "(III)V"⟩ : MethodName) jdk_65_method_30_code 3 none ({ frames := 0, cells := 0, slots := 0, locals := 0 } : Room) n0 #[(.int x), (.int y), (.int z)] h0 (fun v h => v = none ∧ h0 = h) := by
  refine Met.intro (by decide +kernel) ?_
  intro p e s m below meth cc T0 P0
  refine Go.cast (g' := mkF m 0 #[.val (.int x), .val (.int y), .val (.int z)] []) (by first | (simp [entryFrame, mkF, argsToLocals, Value.category, maxLocals]; done) | rfl) ?_
  refine g_iloadN P0 d6_0 rfl ?_
  refine g_iloadN P0 d6_1 rfl ?_
  refine g_icmpYes P0 d6_2 (flt h1).2.2.2 46 (by decide) (by decide) ?_
  refine g_iloadN P0 d6_46 rfl ?_
  refine g_ifYes P0 d6_47 ((if0 _ _).trans (flt h2).2.1) 59 (by decide) (by decide) ?_
  refine g_iloadN P0 d6_59 rfl ?_
  refine g_iloadN P0 d6_60 rfl ?_
  refine g_icmpYes P0 d6_61 (flt h3).2.2.2 73 (by decide) (by decide) ?_
  exact g_ret P0 d6_73 (by decide) (by decide) ⟨rfl, rfl⟩
set_option maxRecDepth 65536 in
set_option maxHeartbeats 40000000 in
theorem rm_mism (l : Launch) (Z : State) (a0 : Array Value) (hw : ∀ d ∈ tables_1, d.before a0 Z = true) (h0 : Heap) (n0 : Nat) (ar br : Addr) (ka kb : ClassId) (va vb : List Value) (x y : Int32) (AA : AL Z h0 ar ka .byte va) (AB : AL Z h0 br kb .byte vb) (ga : va[0]? = some (.int x)) (gb : vb[0]? = some (.int y)) (hne : ¬ x = y) :
    Met l Z (⟨"jdk/internal/util/ArraysSupport", "mismatch", "([BI[BII)I"⟩ : MethodName) jdk_48_method_14_code 8 (some .int) ({ frames := 0, cells := 0, slots := 0, locals := 0 } : Room) n0 #[(.ref ar), (.int (0 : Int32)), (.ref br), (.int (0 : Int32)), (.int (3 : Int32))] h0 (fun v h => v = some (.int 0) ∧ h0 = h) := by
  refine Met.intro (by decide +kernel) ?_
  intro p e s m below meth cc T0 P0
  refine Go.cast (g' := mkF m 0 #[.val (.ref ar), .val (.int (0 : Int32)), .val (.ref br), .val (.int (0 : Int32)), .val (.int (3 : Int32)), .unset, .unset, .unset] []) (by first | (simp [entryFrame, mkF, argsToLocals, Value.category, maxLocals]; done) | rfl) ?_
  refine g_iconst (v := (0 : Int32)) P0 d7_0 (by rfl) ?_
  refine g_istore P0 d7_1 #[.val (.ref ar), .val (.int (0 : Int32)), .val (.ref br), .val (.int (0 : Int32)), .val (.int (3 : Int32)), .val (.int (0 : Int32)), .unset, .unset] rfl ?_
  refine g_iload P0 d7_3 rfl ?_
  refine g_bipush (v := (7 : Int32)) P0 d7_5 (by rfl) ?_
  refine g_icmpYes P0 d7_7 (by decide) 70 (by decide) (by decide) ?_
  refine g_iload P0 d7_70 rfl ?_
  refine g_iload P0 d7_72 rfl ?_
  refine g_icmpNo P0 d7_74 (by decide) ?_
  refine g_aloadN P0 d7_77 rfl rfl ?_
  refine g_iloadN P0 d7_78 rfl ?_
  refine g_iload P0 d7_79 rfl ?_
  refine g_iadd (v := (0 : Int32)) P0 d7_81 (by decide) ?_
  refine g_baload (i := 0) (v := (.int x)) P0 d7_82 AA (by decide) ga ?_
  refine g_aloadN P0 d7_83 rfl rfl ?_
  refine g_iloadN P0 d7_84 rfl ?_
  refine g_iload P0 d7_85 rfl ?_
  refine g_iadd (v := (0 : Int32)) P0 d7_87 (by decide) ?_
  refine g_baload (i := 0) (v := (.int y)) P0 d7_88 AB (by decide) gb ?_
  refine g_icmpNo P0 d7_89 (feq hne).1 ?_
  refine g_iload P0 d7_92 rfl ?_
  exact g_retI P0 d7_94 (by decide) (by decide) ⟨rfl, rfl⟩
set_option maxRecDepth 65536 in
set_option maxHeartbeats 40000000 in
theorem rm_equals (l : Launch) (Z : State) (a0 : Array Value) (hw : ∀ d ∈ tables_1, d.before a0 Z = true) (h0 : Heap) (n0 : Nat) (ar br : Addr) (ka kb : ClassId) (va vb : List Value) (x y : Int32) (AA : AL Z h0 ar ka .byte va) (AB : AL Z h0 br kb .byte vb) (ga : va[0]? = some (.int x)) (gb : vb[0]? = some (.int y)) (hne : ¬ x = y) (la : va.length.toInt32 = 32) (lb : vb.length.toInt32 = 3) :
    Met l Z (⟨"java/util/Arrays", "equals", "([BII[BII)Z"⟩ : MethodName) jdk_65_method_90_code 8 (some .boolean) ({ frames := 1, cells := 0, slots := 0, locals := 30 } : Room) n0 #[(.ref ar), (.int (0 : Int32)), (.int (3 : Int32)), (.ref br), (.int (0 : Int32)), (.int (3 : Int32))] h0 (fun v h => v = some (.int 0) ∧ h0 = h) := by
  refine Met.intro (by decide +kernel) ?_
  intro p e s m below meth cc T0 P0
  refine Go.cast (g' := mkF m 0 #[.val (.ref ar), .val (.int (0 : Int32)), .val (.int (3 : Int32)), .val (.ref br), .val (.int (0 : Int32)), .val (.int (3 : Int32)), .unset, .unset] []) (by first | (simp [entryFrame, mkF, argsToLocals, Value.category, maxLocals]; done) | rfl) ?_
  refine g_aloadN P0 d5_0 rfl rfl ?_
  refine g_arraylength (z := (32 : Int32)) P0 d5_1 AA la ?_
  refine g_iloadN P0 d5_2 rfl ?_
  refine g_iloadN P0 d5_3 rfl ?_
  refine g_static P0 [(.int (32 : Int32)), (.int (0 : Int32)), (.int (3 : Int32))] (rest := []) (W := 0) d5_4 (hw _ (List.mem_of_getElem? (i := 36) rfl)) (hw _ (List.mem_of_getElem? (i := 37) rfl)) (hw _ (List.mem_of_getElem? (i := 34) rfl)) (hw _ (List.mem_of_getElem? (i := 38) rfl)) (by decide) (rm_range l Z a0 hw h0 n0 32 0 3 (by decide) (by decide) (by decide)) pd_3 rfl rfl rfl rfl (by decide) (by decide) (by decide) (by decide) fun v173 T173 h173 P173 q173 => ?_
  obtain ⟨rfl, rfl⟩ := q173
  refine g_aloadN P173 d5_7 rfl rfl ?_
  refine g_arraylength (z := (3 : Int32)) P173 d5_8 AB lb ?_
  refine g_iload P173 d5_9 rfl ?_
  refine g_iload P173 d5_11 rfl ?_
  refine g_static P173 [(.int (3 : Int32)), (.int (0 : Int32)), (.int (3 : Int32))] (rest := []) (W := 0) d5_13 (hw _ (List.mem_of_getElem? (i := 36) rfl)) (hw _ (List.mem_of_getElem? (i := 37) rfl)) (hw _ (List.mem_of_getElem? (i := 34) rfl)) (hw _ (List.mem_of_getElem? (i := 38) rfl)) (by decide) (rm_range l Z a0 hw _ n0 3 0 3 (by decide) (by decide) (by decide)) pd_3 rfl rfl rfl rfl (by decide) (by decide) (by decide) (by decide) fun v174 T174 h174 P174 q174 => ?_
  obtain ⟨rfl, rfl⟩ := q174
  refine g_iloadN P174 d5_16 rfl ?_
  refine g_iloadN P174 d5_17 rfl ?_
  refine g_isub (v := (3 : Int32)) P174 d5_18 (by decide) ?_
  refine g_istore P174 d5_19 #[.val (.ref ar), .val (.int (0 : Int32)), .val (.int (3 : Int32)), .val (.ref br), .val (.int (0 : Int32)), .val (.int (3 : Int32)), .val (.int (3 : Int32)), .unset] rfl ?_
  refine g_iload P174 d5_21 rfl ?_
  refine g_iload P174 d5_23 rfl ?_
  refine g_isub (v := (3 : Int32)) P174 d5_25 (by decide) ?_
  refine g_istore P174 d5_26 #[.val (.ref ar), .val (.int (0 : Int32)), .val (.int (3 : Int32)), .val (.ref br), .val (.int (0 : Int32)), .val (.int (3 : Int32)), .val (.int (3 : Int32)), .val (.int (3 : Int32))] rfl ?_
  refine g_iload P174 d5_28 rfl ?_
  refine g_iload P174 d5_30 rfl ?_
  refine g_icmpYes P174 d5_32 (by decide) 37 (by decide) (by decide) ?_
  refine g_aloadN P174 d5_37 rfl rfl ?_
  refine g_iloadN P174 d5_38 rfl ?_
  refine g_aloadN P174 d5_39 rfl rfl ?_
  refine g_iload P174 d5_40 rfl ?_
  refine g_iload P174 d5_42 rfl ?_
  refine g_static P174 [(.ref ar), (.int (0 : Int32)), (.ref br), (.int (0 : Int32)), (.int (3 : Int32))] (rest := []) (W := 0) d5_44 (hw _ (List.mem_of_getElem? (i := 39) rfl)) (hw _ (List.mem_of_getElem? (i := 40) rfl)) (hw _ (List.mem_of_getElem? (i := 41) rfl)) (hw _ (List.mem_of_getElem? (i := 42) rfl)) (by decide) (rm_mism l Z a0 hw _ n0 ar br ka kb va vb x y AA AB ga gb hne) pd_4 rfl rfl rfl rfl (by decide) (by decide) (by decide) (by decide) fun v175 T175 h175 P175 q175 => ?_
  obtain ⟨rfl, rfl⟩ := q175
  refine g_ifYes P175 d5_47 (by decide) 54 (by decide) (by decide) ?_
  refine g_iconst (v := (0 : Int32)) P175 d5_54 (by rfl) ?_
  exact g_retZ P175 d5_55 (by decide) (by decide) (by decide) ⟨rfl, rfl⟩
set_option maxRecDepth 65536 in
set_option maxHeartbeats 40000000 in
theorem rm_init (l : Launch) (Z : State) (a0 : Array Value) (hw : ∀ d ∈ tables_1, d.before a0 Z = true) (h0 : Heap) (n0 : Nat) (a tx bm : Addr) (kt kb : ClassId) (t : List Int32) (vb : List Value) (ge : n0 ≤ a) (A : Exa Z h0 a "com/example/lintel/lintel/io/CsvReader") (F_text : Fld Z h0 a "com/example/lintel/lintel/io/CsvReader" "text" "[B" .null) (F_length : Fld Z h0 a "com/example/lintel/lintel/io/CsvReader" "length" "I" (.int 0)) (F_starts : Fld Z h0 a "com/example/lintel/lintel/io/CsvReader" "starts" "[I" .null) (F_ends : Fld Z h0 a "com/example/lintel/lintel/io/CsvReader" "ends" "[I" .null) (F_doubledQuotes : Fld Z h0 a "com/example/lintel/lintel/io/CsvReader" "doubledQuotes" "[Z" .null) (F_at : Fld Z h0 a "com/example/lintel/lintel/io/CsvReader" "at" "I" (.int 0)) (F_row : Fld Z h0 a "com/example/lintel/lintel/io/CsvReader" "row" "I" (.int 0)) (F_bytesOr : Fld Z h0 a "com/example/lintel/lintel/io/CsvReader" "bytesOr" "I" (.int 0)) (F_size : Fld Z h0 a "com/example/lintel/lintel/io/CsvReader" "size" "I" (.int 0)) (AT : AL Z h0 tx kt .byte (t.map .int)) (lt : t.length = 32) (hB : AllB t) (txl : tx < a) (txa : tx ≠ a) (SB : Sta Z h0 "com/example/lintel/lintel/io/CsvReader" "BYTE_ORDER_MARK" "[B" (.ref bm)) (AM : AL Z h0 bm kb .byte vb) (lb : vb.length.toInt32 = 3) (gm : vb[0]? = some (.int (-17))) (bma : bm ≠ a) :
    Met l Z (⟨"com/example/lintel/lintel/io/CsvReader", "<init>", "([B)V"⟩ : MethodName) prog_1_method_1_code 2 none ({ frames := 2, cells := 3, slots := 192, locals := 80 } : Room) n0 #[(.ref a), (.ref tx)] h0 (fun v h => v = none ∧ ∃ sa ea da ks ke kd, RO Z h a tx sa ea da (iN 0) 0 0 0 ∧ RA Z h tx sa ea da kt ks ke kd t (List.replicate 64 (0 : Int32)) (List.replicate 64 (0 : Int32)) (List.replicate 64 (0 : Int32)) ∧ Dis a a tx sa ea da ∧ Below a h0 h) := by
  refine Met.intro (by decide +kernel) ?_
  intro p e s m below meth cc T0 P0
  refine Go.cast (g' := mkF m 0 #[.val (.ref a), .val (.ref tx)] []) (by first | (simp [entryFrame, mkF, argsToLocals, Value.category, maxLocals]; done) | rfl) ?_
  have B : Below a h0 h0 := Below.refl
  have lA := ltN A.lt
  have AT1 := AT
  refine g_aloadN P0 d2_0 rfl rfl ?_
  refine g_init (W := 0) P0 d2_1 (hw _ (List.mem_of_getElem? (i := 12) rfl)) (hw _ (List.mem_of_getElem? (i := 13) rfl)) (hw _ (List.mem_of_getElem? (i := 14) rfl)) rfl (by decide) rfl (by decide) fun T176 P176 => ?_
  refine g_aloadN P176 d2_4 rfl rfl ?_
  refine g_bipush (v := (64 : Int32)) P176 d2_5 (by rfl) ?_
  refine g_newarray P176 d2_7 (hw _ (List.mem_of_getElem? (i := 1) rfl)) (by decide) 64 (by decide) (by decide) (by decide) (by decide) "[I" (by decide) fun T177 h177 sa ksa P177 e177 E177 AS0 _ => ?_
  have lA := ltN A.lt
  have A := A.ext E177
  have B := B.ext E177
  have AT := AT.ext E177
  have SB := SB.ext E177
  have AM := AM.ext E177
  have F_text := F_text.ext E177
  have F_length := F_length.ext E177
  have F_starts := F_starts.ext E177
  have F_ends := F_ends.ext E177
  have F_doubledQuotes := F_doubledQuotes.ext E177
  have F_at := F_at.ext E177
  have F_row := F_row.ext E177
  have F_bytesOr := F_bytesOr.ext E177
  have F_size := F_size.ext E177
  have AS : AL Z h177 sa ksa .int ((List.replicate 64 (0 : Int32)).map Value.int) := by rw [List.map_replicate]; exact AS0
  have n_AS : sa ≠ a := nN (by omega)
  have l_sa := AS.lt
  have g_sa : @LE.le Nat _ a sa := by omega
  refine g_putF (host := "") P177 d2_9 (Or.inl (hw _ (List.mem_of_getElem? (i := 15) rfl))) Via.refl F_starts A (Or.inl (hw _ (List.mem_of_getElem? (i := 16) rfl))) (hw _ (List.mem_of_getElem? (i := 7) rfl)) (ty := (.array .int)) (by decide) rfl rfl ge fun T178 h178 P178 W178 => ?_
  have A := A.wr W178
  have B := B.wr W178 (Nat.le_refl a)
  have AT := AT.other W178 txa
  have SB := SB.wr W178
  have AM := AM.other W178 bma
  have F_text := F_text.other W178 (Or.inr (slot_ne (Or.inr (hw _ (List.mem_of_getElem? (i := 23) rfl)) : Laid Z a0 "com/example/lintel/lintel/io/CsvReader" "com/example/lintel/lintel/io/CsvReader" "text" "[B") (Or.inl (hw _ (List.mem_of_getElem? (i := 16) rfl)) : Laid Z a0 "com/example/lintel/lintel/io/CsvReader" "com/example/lintel/lintel/io/CsvReader" "starts" "[I") (by decide) (t := (.array .byte)) (by decide) (t' := (.array .int)) (by decide)))
  have F_length := F_length.other W178 (Or.inr (slot_ne (Or.inr (hw _ (List.mem_of_getElem? (i := 25) rfl)) : Laid Z a0 "com/example/lintel/lintel/io/CsvReader" "com/example/lintel/lintel/io/CsvReader" "length" "I") (Or.inl (hw _ (List.mem_of_getElem? (i := 16) rfl)) : Laid Z a0 "com/example/lintel/lintel/io/CsvReader" "com/example/lintel/lintel/io/CsvReader" "starts" "[I") (by decide) (t := .int) (by decide) (t' := (.array .int)) (by decide)))
  have F_starts := F_starts.same W178
  have F_ends := F_ends.other W178 (Or.inr (slot_ne (Or.inl (hw _ (List.mem_of_getElem? (i := 18) rfl)) : Laid Z a0 "com/example/lintel/lintel/io/CsvReader" "com/example/lintel/lintel/io/CsvReader" "ends" "[I") (Or.inl (hw _ (List.mem_of_getElem? (i := 16) rfl)) : Laid Z a0 "com/example/lintel/lintel/io/CsvReader" "com/example/lintel/lintel/io/CsvReader" "starts" "[I") (by decide) (t := (.array .int)) (by decide) (t' := (.array .int)) (by decide)))
  have F_doubledQuotes := F_doubledQuotes.other W178 (Or.inr (slot_ne (Or.inl (hw _ (List.mem_of_getElem? (i := 21) rfl)) : Laid Z a0 "com/example/lintel/lintel/io/CsvReader" "com/example/lintel/lintel/io/CsvReader" "doubledQuotes" "[Z") (Or.inl (hw _ (List.mem_of_getElem? (i := 16) rfl)) : Laid Z a0 "com/example/lintel/lintel/io/CsvReader" "com/example/lintel/lintel/io/CsvReader" "starts" "[I") (by decide) (t := (.array .boolean)) (by decide) (t' := (.array .int)) (by decide)))
  have F_at := F_at.other W178 (Or.inr (slot_ne (Or.inl (hw _ (List.mem_of_getElem? (i := 44) rfl)) : Laid Z a0 "com/example/lintel/lintel/io/CsvReader" "com/example/lintel/lintel/io/CsvReader" "at" "I") (Or.inl (hw _ (List.mem_of_getElem? (i := 16) rfl)) : Laid Z a0 "com/example/lintel/lintel/io/CsvReader" "com/example/lintel/lintel/io/CsvReader" "starts" "[I") (by decide) (t := .int) (by decide) (t' := (.array .int)) (by decide)))
  have F_row := F_row.other W178 (Or.inr (slot_ne (Or.inl (hw _ (List.mem_of_getElem? (i := 51) rfl)) : Laid Z a0 "com/example/lintel/lintel/io/CsvReader" "com/example/lintel/lintel/io/CsvReader" "row" "I") (Or.inl (hw _ (List.mem_of_getElem? (i := 16) rfl)) : Laid Z a0 "com/example/lintel/lintel/io/CsvReader" "com/example/lintel/lintel/io/CsvReader" "starts" "[I") (by decide) (t := .int) (by decide) (t' := (.array .int)) (by decide)))
  have F_bytesOr := F_bytesOr.other W178 (Or.inr (slot_ne (Or.inl (hw _ (List.mem_of_getElem? (i := 63) rfl)) : Laid Z a0 "com/example/lintel/lintel/io/CsvReader" "com/example/lintel/lintel/io/CsvReader" "bytesOr" "I") (Or.inl (hw _ (List.mem_of_getElem? (i := 16) rfl)) : Laid Z a0 "com/example/lintel/lintel/io/CsvReader" "com/example/lintel/lintel/io/CsvReader" "starts" "[I") (by decide) (t := .int) (by decide) (t' := (.array .int)) (by decide)))
  have F_size := F_size.other W178 (Or.inr (slot_ne (Or.inl (hw _ (List.mem_of_getElem? (i := 53) rfl)) : Laid Z a0 "com/example/lintel/lintel/io/CsvReader" "com/example/lintel/lintel/io/CsvReader" "size" "I") (Or.inl (hw _ (List.mem_of_getElem? (i := 16) rfl)) : Laid Z a0 "com/example/lintel/lintel/io/CsvReader" "com/example/lintel/lintel/io/CsvReader" "starts" "[I") (by decide) (t := .int) (by decide) (t' := (.array .int)) (by decide)))
  have AS := AS.other W178 n_AS
  refine g_aloadN P178 d2_12 rfl rfl ?_
  refine g_bipush (v := (64 : Int32)) P178 d2_13 (by rfl) ?_
  refine g_newarray P178 d2_15 (hw _ (List.mem_of_getElem? (i := 1) rfl)) (by decide) 64 (by decide) (by decide) (by decide) (by decide) "[I" (by decide) fun T179 h179 ea kea P179 e179 E179 AE0 _ => ?_
  have l_sa := AS.lt
  have lA := ltN A.lt
  have A := A.ext E179
  have B := B.ext E179
  have AT := AT.ext E179
  have SB := SB.ext E179
  have AM := AM.ext E179
  have F_text := F_text.ext E179
  have F_length := F_length.ext E179
  have F_starts := F_starts.ext E179
  have F_ends := F_ends.ext E179
  have F_doubledQuotes := F_doubledQuotes.ext E179
  have F_at := F_at.ext E179
  have F_row := F_row.ext E179
  have F_bytesOr := F_bytesOr.ext E179
  have F_size := F_size.ext E179
  have AS := AS.ext E179
  have AE : AL Z h179 ea kea .int ((List.replicate 64 (0 : Int32)).map Value.int) := by rw [List.map_replicate]; exact AE0
  have n_AE : ea ≠ a := nN (by omega)
  have l_ea := AE.lt
  have g_ea : @LE.le Nat _ a ea := by omega
  have n_se : sa ≠ ea := nN (by omega)
  refine g_putF (host := "") P179 d2_17 (Or.inl (hw _ (List.mem_of_getElem? (i := 17) rfl))) Via.refl F_ends A (Or.inl (hw _ (List.mem_of_getElem? (i := 18) rfl))) (hw _ (List.mem_of_getElem? (i := 7) rfl)) (ty := (.array .int)) (by decide) rfl rfl ge fun T180 h180 P180 W180 => ?_
  have A := A.wr W180
  have B := B.wr W180 (Nat.le_refl a)
  have AT := AT.other W180 txa
  have SB := SB.wr W180
  have AM := AM.other W180 bma
  have F_text := F_text.other W180 (Or.inr (slot_ne (Or.inr (hw _ (List.mem_of_getElem? (i := 23) rfl)) : Laid Z a0 "com/example/lintel/lintel/io/CsvReader" "com/example/lintel/lintel/io/CsvReader" "text" "[B") (Or.inl (hw _ (List.mem_of_getElem? (i := 18) rfl)) : Laid Z a0 "com/example/lintel/lintel/io/CsvReader" "com/example/lintel/lintel/io/CsvReader" "ends" "[I") (by decide) (t := (.array .byte)) (by decide) (t' := (.array .int)) (by decide)))
  have F_length := F_length.other W180 (Or.inr (slot_ne (Or.inr (hw _ (List.mem_of_getElem? (i := 25) rfl)) : Laid Z a0 "com/example/lintel/lintel/io/CsvReader" "com/example/lintel/lintel/io/CsvReader" "length" "I") (Or.inl (hw _ (List.mem_of_getElem? (i := 18) rfl)) : Laid Z a0 "com/example/lintel/lintel/io/CsvReader" "com/example/lintel/lintel/io/CsvReader" "ends" "[I") (by decide) (t := .int) (by decide) (t' := (.array .int)) (by decide)))
  have F_starts := F_starts.other W180 (Or.inr (slot_ne (Or.inl (hw _ (List.mem_of_getElem? (i := 16) rfl)) : Laid Z a0 "com/example/lintel/lintel/io/CsvReader" "com/example/lintel/lintel/io/CsvReader" "starts" "[I") (Or.inl (hw _ (List.mem_of_getElem? (i := 18) rfl)) : Laid Z a0 "com/example/lintel/lintel/io/CsvReader" "com/example/lintel/lintel/io/CsvReader" "ends" "[I") (by decide) (t := (.array .int)) (by decide) (t' := (.array .int)) (by decide)))
  have F_ends := F_ends.same W180
  have F_doubledQuotes := F_doubledQuotes.other W180 (Or.inr (slot_ne (Or.inl (hw _ (List.mem_of_getElem? (i := 21) rfl)) : Laid Z a0 "com/example/lintel/lintel/io/CsvReader" "com/example/lintel/lintel/io/CsvReader" "doubledQuotes" "[Z") (Or.inl (hw _ (List.mem_of_getElem? (i := 18) rfl)) : Laid Z a0 "com/example/lintel/lintel/io/CsvReader" "com/example/lintel/lintel/io/CsvReader" "ends" "[I") (by decide) (t := (.array .boolean)) (by decide) (t' := (.array .int)) (by decide)))
  have F_at := F_at.other W180 (Or.inr (slot_ne (Or.inl (hw _ (List.mem_of_getElem? (i := 44) rfl)) : Laid Z a0 "com/example/lintel/lintel/io/CsvReader" "com/example/lintel/lintel/io/CsvReader" "at" "I") (Or.inl (hw _ (List.mem_of_getElem? (i := 18) rfl)) : Laid Z a0 "com/example/lintel/lintel/io/CsvReader" "com/example/lintel/lintel/io/CsvReader" "ends" "[I") (by decide) (t := .int) (by decide) (t' := (.array .int)) (by decide)))
  have F_row := F_row.other W180 (Or.inr (slot_ne (Or.inl (hw _ (List.mem_of_getElem? (i := 51) rfl)) : Laid Z a0 "com/example/lintel/lintel/io/CsvReader" "com/example/lintel/lintel/io/CsvReader" "row" "I") (Or.inl (hw _ (List.mem_of_getElem? (i := 18) rfl)) : Laid Z a0 "com/example/lintel/lintel/io/CsvReader" "com/example/lintel/lintel/io/CsvReader" "ends" "[I") (by decide) (t := .int) (by decide) (t' := (.array .int)) (by decide)))
  have F_bytesOr := F_bytesOr.other W180 (Or.inr (slot_ne (Or.inl (hw _ (List.mem_of_getElem? (i := 63) rfl)) : Laid Z a0 "com/example/lintel/lintel/io/CsvReader" "com/example/lintel/lintel/io/CsvReader" "bytesOr" "I") (Or.inl (hw _ (List.mem_of_getElem? (i := 18) rfl)) : Laid Z a0 "com/example/lintel/lintel/io/CsvReader" "com/example/lintel/lintel/io/CsvReader" "ends" "[I") (by decide) (t := .int) (by decide) (t' := (.array .int)) (by decide)))
  have F_size := F_size.other W180 (Or.inr (slot_ne (Or.inl (hw _ (List.mem_of_getElem? (i := 53) rfl)) : Laid Z a0 "com/example/lintel/lintel/io/CsvReader" "com/example/lintel/lintel/io/CsvReader" "size" "I") (Or.inl (hw _ (List.mem_of_getElem? (i := 18) rfl)) : Laid Z a0 "com/example/lintel/lintel/io/CsvReader" "com/example/lintel/lintel/io/CsvReader" "ends" "[I") (by decide) (t := .int) (by decide) (t' := (.array .int)) (by decide)))
  have AS := AS.other W180 n_AS
  have AE := AE.other W180 n_AE
  refine g_aloadN P180 d2_20 rfl rfl ?_
  refine g_bipush (v := (64 : Int32)) P180 d2_21 (by rfl) ?_
  refine g_newarray P180 d2_23 (hw _ (List.mem_of_getElem? (i := 19) rfl)) (by decide) 64 (by decide) (by decide) (by decide) (by decide) "[Z" (by decide) fun T181 h181 da kda P181 e181 E181 AD0 _ => ?_
  have l_sa := AS.lt
  have l_ea := AE.lt
  have lA := ltN A.lt
  have A := A.ext E181
  have B := B.ext E181
  have AT := AT.ext E181
  have SB := SB.ext E181
  have AM := AM.ext E181
  have F_text := F_text.ext E181
  have F_length := F_length.ext E181
  have F_starts := F_starts.ext E181
  have F_ends := F_ends.ext E181
  have F_doubledQuotes := F_doubledQuotes.ext E181
  have F_at := F_at.ext E181
  have F_row := F_row.ext E181
  have F_bytesOr := F_bytesOr.ext E181
  have F_size := F_size.ext E181
  have AS := AS.ext E181
  have AE := AE.ext E181
  have AD : AL Z h181 da kda .boolean ((List.replicate 64 (0 : Int32)).map Value.int) := by rw [List.map_replicate]; exact AD0
  have n_AD : da ≠ a := nN (by omega)
  have l_da := AD.lt
  have g_da : @LE.le Nat _ a da := by omega
  have n_sd : sa ≠ da := nN (by omega)
  have n_ed : ea ≠ da := nN (by omega)
  refine g_putF (host := "") P181 d2_25 (Or.inl (hw _ (List.mem_of_getElem? (i := 20) rfl))) Via.refl F_doubledQuotes A (Or.inl (hw _ (List.mem_of_getElem? (i := 21) rfl))) (hw _ (List.mem_of_getElem? (i := 7) rfl)) (ty := (.array .boolean)) (by decide) rfl rfl ge fun T182 h182 P182 W182 => ?_
  have A := A.wr W182
  have B := B.wr W182 (Nat.le_refl a)
  have AT := AT.other W182 txa
  have SB := SB.wr W182
  have AM := AM.other W182 bma
  have F_text := F_text.other W182 (Or.inr (slot_ne (Or.inr (hw _ (List.mem_of_getElem? (i := 23) rfl)) : Laid Z a0 "com/example/lintel/lintel/io/CsvReader" "com/example/lintel/lintel/io/CsvReader" "text" "[B") (Or.inl (hw _ (List.mem_of_getElem? (i := 21) rfl)) : Laid Z a0 "com/example/lintel/lintel/io/CsvReader" "com/example/lintel/lintel/io/CsvReader" "doubledQuotes" "[Z") (by decide) (t := (.array .byte)) (by decide) (t' := (.array .boolean)) (by decide)))
  have F_length := F_length.other W182 (Or.inr (slot_ne (Or.inr (hw _ (List.mem_of_getElem? (i := 25) rfl)) : Laid Z a0 "com/example/lintel/lintel/io/CsvReader" "com/example/lintel/lintel/io/CsvReader" "length" "I") (Or.inl (hw _ (List.mem_of_getElem? (i := 21) rfl)) : Laid Z a0 "com/example/lintel/lintel/io/CsvReader" "com/example/lintel/lintel/io/CsvReader" "doubledQuotes" "[Z") (by decide) (t := .int) (by decide) (t' := (.array .boolean)) (by decide)))
  have F_starts := F_starts.other W182 (Or.inr (slot_ne (Or.inl (hw _ (List.mem_of_getElem? (i := 16) rfl)) : Laid Z a0 "com/example/lintel/lintel/io/CsvReader" "com/example/lintel/lintel/io/CsvReader" "starts" "[I") (Or.inl (hw _ (List.mem_of_getElem? (i := 21) rfl)) : Laid Z a0 "com/example/lintel/lintel/io/CsvReader" "com/example/lintel/lintel/io/CsvReader" "doubledQuotes" "[Z") (by decide) (t := (.array .int)) (by decide) (t' := (.array .boolean)) (by decide)))
  have F_ends := F_ends.other W182 (Or.inr (slot_ne (Or.inl (hw _ (List.mem_of_getElem? (i := 18) rfl)) : Laid Z a0 "com/example/lintel/lintel/io/CsvReader" "com/example/lintel/lintel/io/CsvReader" "ends" "[I") (Or.inl (hw _ (List.mem_of_getElem? (i := 21) rfl)) : Laid Z a0 "com/example/lintel/lintel/io/CsvReader" "com/example/lintel/lintel/io/CsvReader" "doubledQuotes" "[Z") (by decide) (t := (.array .int)) (by decide) (t' := (.array .boolean)) (by decide)))
  have F_doubledQuotes := F_doubledQuotes.same W182
  have F_at := F_at.other W182 (Or.inr (slot_ne (Or.inl (hw _ (List.mem_of_getElem? (i := 44) rfl)) : Laid Z a0 "com/example/lintel/lintel/io/CsvReader" "com/example/lintel/lintel/io/CsvReader" "at" "I") (Or.inl (hw _ (List.mem_of_getElem? (i := 21) rfl)) : Laid Z a0 "com/example/lintel/lintel/io/CsvReader" "com/example/lintel/lintel/io/CsvReader" "doubledQuotes" "[Z") (by decide) (t := .int) (by decide) (t' := (.array .boolean)) (by decide)))
  have F_row := F_row.other W182 (Or.inr (slot_ne (Or.inl (hw _ (List.mem_of_getElem? (i := 51) rfl)) : Laid Z a0 "com/example/lintel/lintel/io/CsvReader" "com/example/lintel/lintel/io/CsvReader" "row" "I") (Or.inl (hw _ (List.mem_of_getElem? (i := 21) rfl)) : Laid Z a0 "com/example/lintel/lintel/io/CsvReader" "com/example/lintel/lintel/io/CsvReader" "doubledQuotes" "[Z") (by decide) (t := .int) (by decide) (t' := (.array .boolean)) (by decide)))
  have F_bytesOr := F_bytesOr.other W182 (Or.inr (slot_ne (Or.inl (hw _ (List.mem_of_getElem? (i := 63) rfl)) : Laid Z a0 "com/example/lintel/lintel/io/CsvReader" "com/example/lintel/lintel/io/CsvReader" "bytesOr" "I") (Or.inl (hw _ (List.mem_of_getElem? (i := 21) rfl)) : Laid Z a0 "com/example/lintel/lintel/io/CsvReader" "com/example/lintel/lintel/io/CsvReader" "doubledQuotes" "[Z") (by decide) (t := .int) (by decide) (t' := (.array .boolean)) (by decide)))
  have F_size := F_size.other W182 (Or.inr (slot_ne (Or.inl (hw _ (List.mem_of_getElem? (i := 53) rfl)) : Laid Z a0 "com/example/lintel/lintel/io/CsvReader" "com/example/lintel/lintel/io/CsvReader" "size" "I") (Or.inl (hw _ (List.mem_of_getElem? (i := 21) rfl)) : Laid Z a0 "com/example/lintel/lintel/io/CsvReader" "com/example/lintel/lintel/io/CsvReader" "doubledQuotes" "[Z") (by decide) (t := .int) (by decide) (t' := (.array .boolean)) (by decide)))
  have AS := AS.other W182 n_AS
  have AE := AE.other W182 n_AE
  have AD := AD.other W182 n_AD
  refine g_aloadN P182 d2_28 rfl rfl ?_
  refine g_aloadN P182 d2_29 rfl rfl ?_
  refine g_putF (host := "") P182 d2_30 (Or.inl (hw _ (List.mem_of_getElem? (i := 22) rfl))) Via.refl F_text A (Or.inr ⟨(hw _ (List.mem_of_getElem? (i := 23) rfl)), rfl, rfl⟩) (hw _ (List.mem_of_getElem? (i := 7) rfl)) (ty := (.array .byte)) (by decide) rfl rfl ge fun T183 h183 P183 W183 => ?_
  have A := A.wr W183
  have B := B.wr W183 (Nat.le_refl a)
  have AT := AT.other W183 txa
  have SB := SB.wr W183
  have AM := AM.other W183 bma
  have F_text := F_text.same W183
  have F_length := F_length.other W183 (Or.inr (slot_ne (Or.inr (hw _ (List.mem_of_getElem? (i := 25) rfl)) : Laid Z a0 "com/example/lintel/lintel/io/CsvReader" "com/example/lintel/lintel/io/CsvReader" "length" "I") (Or.inr (hw _ (List.mem_of_getElem? (i := 23) rfl)) : Laid Z a0 "com/example/lintel/lintel/io/CsvReader" "com/example/lintel/lintel/io/CsvReader" "text" "[B") (by decide) (t := .int) (by decide) (t' := (.array .byte)) (by decide)))
  have F_starts := F_starts.other W183 (Or.inr (slot_ne (Or.inl (hw _ (List.mem_of_getElem? (i := 16) rfl)) : Laid Z a0 "com/example/lintel/lintel/io/CsvReader" "com/example/lintel/lintel/io/CsvReader" "starts" "[I") (Or.inr (hw _ (List.mem_of_getElem? (i := 23) rfl)) : Laid Z a0 "com/example/lintel/lintel/io/CsvReader" "com/example/lintel/lintel/io/CsvReader" "text" "[B") (by decide) (t := (.array .int)) (by decide) (t' := (.array .byte)) (by decide)))
  have F_ends := F_ends.other W183 (Or.inr (slot_ne (Or.inl (hw _ (List.mem_of_getElem? (i := 18) rfl)) : Laid Z a0 "com/example/lintel/lintel/io/CsvReader" "com/example/lintel/lintel/io/CsvReader" "ends" "[I") (Or.inr (hw _ (List.mem_of_getElem? (i := 23) rfl)) : Laid Z a0 "com/example/lintel/lintel/io/CsvReader" "com/example/lintel/lintel/io/CsvReader" "text" "[B") (by decide) (t := (.array .int)) (by decide) (t' := (.array .byte)) (by decide)))
  have F_doubledQuotes := F_doubledQuotes.other W183 (Or.inr (slot_ne (Or.inl (hw _ (List.mem_of_getElem? (i := 21) rfl)) : Laid Z a0 "com/example/lintel/lintel/io/CsvReader" "com/example/lintel/lintel/io/CsvReader" "doubledQuotes" "[Z") (Or.inr (hw _ (List.mem_of_getElem? (i := 23) rfl)) : Laid Z a0 "com/example/lintel/lintel/io/CsvReader" "com/example/lintel/lintel/io/CsvReader" "text" "[B") (by decide) (t := (.array .boolean)) (by decide) (t' := (.array .byte)) (by decide)))
  have F_at := F_at.other W183 (Or.inr (slot_ne (Or.inl (hw _ (List.mem_of_getElem? (i := 44) rfl)) : Laid Z a0 "com/example/lintel/lintel/io/CsvReader" "com/example/lintel/lintel/io/CsvReader" "at" "I") (Or.inr (hw _ (List.mem_of_getElem? (i := 23) rfl)) : Laid Z a0 "com/example/lintel/lintel/io/CsvReader" "com/example/lintel/lintel/io/CsvReader" "text" "[B") (by decide) (t := .int) (by decide) (t' := (.array .byte)) (by decide)))
  have F_row := F_row.other W183 (Or.inr (slot_ne (Or.inl (hw _ (List.mem_of_getElem? (i := 51) rfl)) : Laid Z a0 "com/example/lintel/lintel/io/CsvReader" "com/example/lintel/lintel/io/CsvReader" "row" "I") (Or.inr (hw _ (List.mem_of_getElem? (i := 23) rfl)) : Laid Z a0 "com/example/lintel/lintel/io/CsvReader" "com/example/lintel/lintel/io/CsvReader" "text" "[B") (by decide) (t := .int) (by decide) (t' := (.array .byte)) (by decide)))
  have F_bytesOr := F_bytesOr.other W183 (Or.inr (slot_ne (Or.inl (hw _ (List.mem_of_getElem? (i := 63) rfl)) : Laid Z a0 "com/example/lintel/lintel/io/CsvReader" "com/example/lintel/lintel/io/CsvReader" "bytesOr" "I") (Or.inr (hw _ (List.mem_of_getElem? (i := 23) rfl)) : Laid Z a0 "com/example/lintel/lintel/io/CsvReader" "com/example/lintel/lintel/io/CsvReader" "text" "[B") (by decide) (t := .int) (by decide) (t' := (.array .byte)) (by decide)))
  have F_size := F_size.other W183 (Or.inr (slot_ne (Or.inl (hw _ (List.mem_of_getElem? (i := 53) rfl)) : Laid Z a0 "com/example/lintel/lintel/io/CsvReader" "com/example/lintel/lintel/io/CsvReader" "size" "I") (Or.inr (hw _ (List.mem_of_getElem? (i := 23) rfl)) : Laid Z a0 "com/example/lintel/lintel/io/CsvReader" "com/example/lintel/lintel/io/CsvReader" "text" "[B") (by decide) (t := .int) (by decide) (t' := (.array .byte)) (by decide)))
  have AS := AS.other W183 n_AS
  have AE := AE.other W183 n_AE
  have AD := AD.other W183 n_AD
  refine g_aloadN P183 d2_33 rfl rfl ?_
  refine g_aloadN P183 d2_34 rfl rfl ?_
  refine g_arraylength (z := (32 : Int32)) P183 d2_35 AT (by rw [List.length_map, lt]; rfl) ?_
  refine g_putF (host := "") P183 d2_36 (Or.inl (hw _ (List.mem_of_getElem? (i := 24) rfl))) Via.refl F_length A (Or.inr ⟨(hw _ (List.mem_of_getElem? (i := 25) rfl)), rfl, rfl⟩) (hw _ (List.mem_of_getElem? (i := 7) rfl)) (ty := .int) (by decide) rfl rfl ge fun T184 h184 P184 W184 => ?_
  have A := A.wr W184
  have B := B.wr W184 (Nat.le_refl a)
  have AT := AT.other W184 txa
  have SB := SB.wr W184
  have AM := AM.other W184 bma
  have F_text := F_text.other W184 (Or.inr (slot_ne (Or.inr (hw _ (List.mem_of_getElem? (i := 23) rfl)) : Laid Z a0 "com/example/lintel/lintel/io/CsvReader" "com/example/lintel/lintel/io/CsvReader" "text" "[B") (Or.inr (hw _ (List.mem_of_getElem? (i := 25) rfl)) : Laid Z a0 "com/example/lintel/lintel/io/CsvReader" "com/example/lintel/lintel/io/CsvReader" "length" "I") (by decide) (t := (.array .byte)) (by decide) (t' := .int) (by decide)))
  have F_length := F_length.same W184
  have F_starts := F_starts.other W184 (Or.inr (slot_ne (Or.inl (hw _ (List.mem_of_getElem? (i := 16) rfl)) : Laid Z a0 "com/example/lintel/lintel/io/CsvReader" "com/example/lintel/lintel/io/CsvReader" "starts" "[I") (Or.inr (hw _ (List.mem_of_getElem? (i := 25) rfl)) : Laid Z a0 "com/example/lintel/lintel/io/CsvReader" "com/example/lintel/lintel/io/CsvReader" "length" "I") (by decide) (t := (.array .int)) (by decide) (t' := .int) (by decide)))
  have F_ends := F_ends.other W184 (Or.inr (slot_ne (Or.inl (hw _ (List.mem_of_getElem? (i := 18) rfl)) : Laid Z a0 "com/example/lintel/lintel/io/CsvReader" "com/example/lintel/lintel/io/CsvReader" "ends" "[I") (Or.inr (hw _ (List.mem_of_getElem? (i := 25) rfl)) : Laid Z a0 "com/example/lintel/lintel/io/CsvReader" "com/example/lintel/lintel/io/CsvReader" "length" "I") (by decide) (t := (.array .int)) (by decide) (t' := .int) (by decide)))
  have F_doubledQuotes := F_doubledQuotes.other W184 (Or.inr (slot_ne (Or.inl (hw _ (List.mem_of_getElem? (i := 21) rfl)) : Laid Z a0 "com/example/lintel/lintel/io/CsvReader" "com/example/lintel/lintel/io/CsvReader" "doubledQuotes" "[Z") (Or.inr (hw _ (List.mem_of_getElem? (i := 25) rfl)) : Laid Z a0 "com/example/lintel/lintel/io/CsvReader" "com/example/lintel/lintel/io/CsvReader" "length" "I") (by decide) (t := (.array .boolean)) (by decide) (t' := .int) (by decide)))
  have F_at := F_at.other W184 (Or.inr (slot_ne (Or.inl (hw _ (List.mem_of_getElem? (i := 44) rfl)) : Laid Z a0 "com/example/lintel/lintel/io/CsvReader" "com/example/lintel/lintel/io/CsvReader" "at" "I") (Or.inr (hw _ (List.mem_of_getElem? (i := 25) rfl)) : Laid Z a0 "com/example/lintel/lintel/io/CsvReader" "com/example/lintel/lintel/io/CsvReader" "length" "I") (by decide) (t := .int) (by decide) (t' := .int) (by decide)))
  have F_row := F_row.other W184 (Or.inr (slot_ne (Or.inl (hw _ (List.mem_of_getElem? (i := 51) rfl)) : Laid Z a0 "com/example/lintel/lintel/io/CsvReader" "com/example/lintel/lintel/io/CsvReader" "row" "I") (Or.inr (hw _ (List.mem_of_getElem? (i := 25) rfl)) : Laid Z a0 "com/example/lintel/lintel/io/CsvReader" "com/example/lintel/lintel/io/CsvReader" "length" "I") (by decide) (t := .int) (by decide) (t' := .int) (by decide)))
  have F_bytesOr := F_bytesOr.other W184 (Or.inr (slot_ne (Or.inl (hw _ (List.mem_of_getElem? (i := 63) rfl)) : Laid Z a0 "com/example/lintel/lintel/io/CsvReader" "com/example/lintel/lintel/io/CsvReader" "bytesOr" "I") (Or.inr (hw _ (List.mem_of_getElem? (i := 25) rfl)) : Laid Z a0 "com/example/lintel/lintel/io/CsvReader" "com/example/lintel/lintel/io/CsvReader" "length" "I") (by decide) (t := .int) (by decide) (t' := .int) (by decide)))
  have F_size := F_size.other W184 (Or.inr (slot_ne (Or.inl (hw _ (List.mem_of_getElem? (i := 53) rfl)) : Laid Z a0 "com/example/lintel/lintel/io/CsvReader" "com/example/lintel/lintel/io/CsvReader" "size" "I") (Or.inr (hw _ (List.mem_of_getElem? (i := 25) rfl)) : Laid Z a0 "com/example/lintel/lintel/io/CsvReader" "com/example/lintel/lintel/io/CsvReader" "length" "I") (by decide) (t := .int) (by decide) (t' := .int) (by decide)))
  have AS := AS.other W184 n_AS
  have AE := AE.other W184 n_AE
  have AD := AD.other W184 n_AD
  refine g_aloadN P184 d2_39 rfl rfl ?_
  refine g_aloadN P184 d2_40 rfl rfl ?_
  refine g_iconst (v := (0 : Int32)) P184 d2_41 (by rfl) ?_
  refine g_aloadN P184 d2_42 rfl rfl ?_
  refine g_getF (host := "") P184 d2_43 (Or.inl (hw _ (List.mem_of_getElem? (i := 24) rfl))) Via.refl F_length fun T185 P185 => ?_
  refine g_getS (host := "") P185 d2_46 (Or.inl (hw _ (List.mem_of_getElem? (i := 26) rfl))) Via.refl SB fun T186 P186 => ?_
  refine g_arraylength (z := (3 : Int32)) P186 d2_49 AM lb ?_
  refine g_static P186 [(.int (32 : Int32)), (.int (3 : Int32))] (rest := [(.int (0 : Int32)), (.ref tx), (.ref a)]) (W := 3) d2_50 (hw _ (List.mem_of_getElem? (i := 28) rfl)) (hw _ (List.mem_of_getElem? (i := 29) rfl)) (hw _ (List.mem_of_getElem? (i := 30) rfl)) (hw _ (List.mem_of_getElem? (i := 31) rfl)) (by decide) (rm_min l Z a0 hw _ n0 32 3 3 (by decide)) pd_5 rfl rfl rfl rfl (by decide) (by decide) (by decide) (by decide) fun v187 T187 h187 P187 q187 => ?_
  obtain ⟨rfl, rfl⟩ := q187
  refine g_getS (host := "") P187 d2_53 (Or.inl (hw _ (List.mem_of_getElem? (i := 26) rfl))) Via.refl SB fun T188 P188 => ?_
  refine g_iconst (v := (0 : Int32)) P188 d2_56 (by rfl) ?_
  refine g_getS (host := "") P188 d2_57 (Or.inl (hw _ (List.mem_of_getElem? (i := 26) rfl))) Via.refl SB fun T189 P189 => ?_
  refine g_arraylength (z := (3 : Int32)) P189 d2_60 AM lb ?_
  obtain ⟨c, hc⟩ := get_of (t := t) (i := 0) (by omega)
  have hne : ¬ c = (-17 : Int32) := fun q => by have := (hB 0 c hc).1; rw [q] at this; exact absurd this (by decide)
  refine g_static P189 [(.ref tx), (.int (0 : Int32)), (.int (3 : Int32)), (.ref bm), (.int (0 : Int32)), (.int (3 : Int32))] (rest := [(.ref a)]) (W := 1) d2_61 (hw _ (List.mem_of_getElem? (i := 32) rfl)) (hw _ (List.mem_of_getElem? (i := 33) rfl)) (hw _ (List.mem_of_getElem? (i := 34) rfl)) (hw _ (List.mem_of_getElem? (i := 35) rfl)) (by decide) (rm_equals l Z a0 hw _ n0 tx bm _ _ _ _ c (-17) AT AM (map_get hc) gm hne (by rw [List.length_map, lt]; rfl) lb) pd_6 rfl rfl rfl rfl (by decide) (by decide) (by decide) (by decide) fun v190 T190 h190 P190 q190 => ?_
  obtain ⟨rfl, rfl⟩ := q190
  refine g_ifYes P190 d2_64 (by decide) 74 (by decide) (by decide) ?_
  refine g_iconst (v := (0 : Int32)) P190 d2_74 (by rfl) ?_
  refine g_putF (host := "") P190 d2_75 (Or.inl (hw _ (List.mem_of_getElem? (i := 43) rfl))) Via.refl F_at A (Or.inl (hw _ (List.mem_of_getElem? (i := 44) rfl))) (hw _ (List.mem_of_getElem? (i := 7) rfl)) (ty := .int) (by decide) rfl rfl ge fun T191 h191 P191 W191 => ?_
  have A := A.wr W191
  have B := B.wr W191 (Nat.le_refl a)
  have AT := AT.other W191 txa
  have SB := SB.wr W191
  have AM := AM.other W191 bma
  have F_text := F_text.other W191 (Or.inr (slot_ne (Or.inr (hw _ (List.mem_of_getElem? (i := 23) rfl)) : Laid Z a0 "com/example/lintel/lintel/io/CsvReader" "com/example/lintel/lintel/io/CsvReader" "text" "[B") (Or.inl (hw _ (List.mem_of_getElem? (i := 44) rfl)) : Laid Z a0 "com/example/lintel/lintel/io/CsvReader" "com/example/lintel/lintel/io/CsvReader" "at" "I") (by decide) (t := (.array .byte)) (by decide) (t' := .int) (by decide)))
  have F_length := F_length.other W191 (Or.inr (slot_ne (Or.inr (hw _ (List.mem_of_getElem? (i := 25) rfl)) : Laid Z a0 "com/example/lintel/lintel/io/CsvReader" "com/example/lintel/lintel/io/CsvReader" "length" "I") (Or.inl (hw _ (List.mem_of_getElem? (i := 44) rfl)) : Laid Z a0 "com/example/lintel/lintel/io/CsvReader" "com/example/lintel/lintel/io/CsvReader" "at" "I") (by decide) (t := .int) (by decide) (t' := .int) (by decide)))
  have F_starts := F_starts.other W191 (Or.inr (slot_ne (Or.inl (hw _ (List.mem_of_getElem? (i := 16) rfl)) : Laid Z a0 "com/example/lintel/lintel/io/CsvReader" "com/example/lintel/lintel/io/CsvReader" "starts" "[I") (Or.inl (hw _ (List.mem_of_getElem? (i := 44) rfl)) : Laid Z a0 "com/example/lintel/lintel/io/CsvReader" "com/example/lintel/lintel/io/CsvReader" "at" "I") (by decide) (t := (.array .int)) (by decide) (t' := .int) (by decide)))
  have F_ends := F_ends.other W191 (Or.inr (slot_ne (Or.inl (hw _ (List.mem_of_getElem? (i := 18) rfl)) : Laid Z a0 "com/example/lintel/lintel/io/CsvReader" "com/example/lintel/lintel/io/CsvReader" "ends" "[I") (Or.inl (hw _ (List.mem_of_getElem? (i := 44) rfl)) : Laid Z a0 "com/example/lintel/lintel/io/CsvReader" "com/example/lintel/lintel/io/CsvReader" "at" "I") (by decide) (t := (.array .int)) (by decide) (t' := .int) (by decide)))
  have F_doubledQuotes := F_doubledQuotes.other W191 (Or.inr (slot_ne (Or.inl (hw _ (List.mem_of_getElem? (i := 21) rfl)) : Laid Z a0 "com/example/lintel/lintel/io/CsvReader" "com/example/lintel/lintel/io/CsvReader" "doubledQuotes" "[Z") (Or.inl (hw _ (List.mem_of_getElem? (i := 44) rfl)) : Laid Z a0 "com/example/lintel/lintel/io/CsvReader" "com/example/lintel/lintel/io/CsvReader" "at" "I") (by decide) (t := (.array .boolean)) (by decide) (t' := .int) (by decide)))
  have F_at := F_at.same W191
  have F_row := F_row.other W191 (Or.inr (slot_ne (Or.inl (hw _ (List.mem_of_getElem? (i := 51) rfl)) : Laid Z a0 "com/example/lintel/lintel/io/CsvReader" "com/example/lintel/lintel/io/CsvReader" "row" "I") (Or.inl (hw _ (List.mem_of_getElem? (i := 44) rfl)) : Laid Z a0 "com/example/lintel/lintel/io/CsvReader" "com/example/lintel/lintel/io/CsvReader" "at" "I") (by decide) (t := .int) (by decide) (t' := .int) (by decide)))
  have F_bytesOr := F_bytesOr.other W191 (Or.inr (slot_ne (Or.inl (hw _ (List.mem_of_getElem? (i := 63) rfl)) : Laid Z a0 "com/example/lintel/lintel/io/CsvReader" "com/example/lintel/lintel/io/CsvReader" "bytesOr" "I") (Or.inl (hw _ (List.mem_of_getElem? (i := 44) rfl)) : Laid Z a0 "com/example/lintel/lintel/io/CsvReader" "com/example/lintel/lintel/io/CsvReader" "at" "I") (by decide) (t := .int) (by decide) (t' := .int) (by decide)))
  have F_size := F_size.other W191 (Or.inr (slot_ne (Or.inl (hw _ (List.mem_of_getElem? (i := 53) rfl)) : Laid Z a0 "com/example/lintel/lintel/io/CsvReader" "com/example/lintel/lintel/io/CsvReader" "size" "I") (Or.inl (hw _ (List.mem_of_getElem? (i := 44) rfl)) : Laid Z a0 "com/example/lintel/lintel/io/CsvReader" "com/example/lintel/lintel/io/CsvReader" "at" "I") (by decide) (t := .int) (by decide) (t' := .int) (by decide)))
  have AS := AS.other W191 n_AS
  have AE := AE.other W191 n_AE
  have AD := AD.other W191 n_AD
  exact g_ret P191 d2_78 (by decide) (by decide) ⟨rfl, sa, ea, da, ksa, kea, kda, ⟨A, F_text, F_length, F_starts, F_ends, F_doubledQuotes, F_at, F_row, F_bytesOr, F_size⟩, ⟨AT, AS, AE, AD, lt, by rw [List.length_replicate], by rw [List.length_replicate], by rw [List.length_replicate]⟩, ⟨⟨Ne.symm txa, Ne.symm n_AS, Ne.symm n_AE, Ne.symm n_AD, nN (by have := ltN txl; omega), nN (by have := ltN txl; omega), nN (by have := ltN txl; omega), n_se, n_sd, n_ed⟩, Nat.le_refl _, g_sa, g_ea, g_da⟩, B⟩
set_option maxRecDepth 65536 in
set_option maxHeartbeats 40000000 in
theorem rm_putq (l : Launch) (Z : State) (a0 : Array Value) (hw : ∀ d ∈ tables_1, d.before a0 Z = true) (h0 : Heap) (n0 : Nat) (tx : Addr) (kt : ClassId) (t : List Int32) (q : Nat) (c la : Int32) (g0 : True) (AT : AL Z h0 tx kt .byte (t.map .int)) (lt : t.length = 32) (hB : AllB t) (hc : 0 ≤ c.toInt ∧ c.toInt < 128) (hq : q + 1 < 32) (ge : n0 ≤ tx) :
    Met l Z (⟨"com/example/lintel/lintel/io/CsvReaderLengthPinLaw", "put", "([BIIZZ)I"⟩ : MethodName) method_2_code 6 (some .int) ({ frames := 0, cells := 0, slots := 0, locals := 0 } : Room) n0 #[(.ref tx), (.int (iN q)), (.int c), (.int (1 : Int32)), (.int la)] h0 (fun v h => ∃ t' q', v = some (.int (iN q')) ∧ AL Z h tx kt .byte (t'.map .int) ∧ t'.length = 32 ∧ q < q' ∧ q' ≤ q + 2 ∧ (∀ i, i < q → t'[i]? = t[i]?) ∧ (∀ i, q' ≤ i → t'[i]? = t[i]?) ∧ QSeg t' q q' ∧ AllB t' ∧ Keep h0 h [tx]) := by
  refine Met.intro (by decide +kernel) ?_
  intro p e s m below meth cc T0 P0
  refine Go.cast (g' := mkF m 0 #[.val (.ref tx), .val (.int (iN q)), .val (.int c), .val (.int (1 : Int32)), .val (.int la), .unset] []) (by first | (simp [entryFrame, mkF, argsToLocals, Value.category, maxLocals]; done) | rfl) ?_
  have K : Keep h0 h0 [tx] := Keep.refl _ _
  refine g_iloadN P0 d14_0 rfl ?_
  refine g_ifNo P0 d14_1 (by decide) ?_
  refine g_iloadN P0 d14_4 rfl ?_
  refine g_bipush (v := (34 : Int32)) P0 d14_5 (by rfl) ?_
  by_cases h34 : c = (34 : Int32)
  · refine g_icmpNo P0 d14_7 (teq h34).2 ?_
    refine g_aloadN P0 d14_10 rfl rfl ?_
    refine g_iloadN P0 d14_11 rfl ?_
    refine g_bipush (v := (34 : Int32)) P0 d14_12 (by rfl) ?_
    refine g_bastoreB (i := q) (w := 34) P0 d14_14 AT (ix_iN (by omega)) (by simp only [List.length_map, List.length_set]; omega) ge (by decide) fun T192 h192 P192 W192 AT => ?_
    rw [map_set'] at AT
    have K := K.wr W192 (Or.inl (List.mem_singleton.mpr rfl))
    refine g_aloadN P192 d14_15 rfl rfl ?_
    refine g_iloadN P192 d14_16 rfl ?_
    refine g_iconst (v := (1 : Int32)) P192 d14_17 (by rfl) ?_
    refine g_iadd (v := (iN (q + 1))) P192 d14_18 (iN_add _ 1) ?_
    refine g_bipush (v := (34 : Int32)) P192 d14_19 (by rfl) ?_
    refine g_bastoreB (i := (q + 1)) (w := 34) P192 d14_21 AT (ix_iN (by omega)) (by simp only [List.length_map, List.length_set]; omega) ge (by decide) fun T193 h193 P193 W193 AT => ?_
    rw [map_set'] at AT
    have K := K.wr W193 (Or.inl (List.mem_singleton.mpr rfl))
    refine g_iloadN P193 d14_22 rfl ?_
    refine g_iconst (v := (2 : Int32)) P193 d14_23 (by rfl) ?_
    refine g_iadd (v := (iN (q + 2))) P193 d14_24 (iN_add _ 2) ?_
    exact g_retI P193 d14_25 (by decide) (by decide) ⟨_, q + 2, rfl, AT, by first | omega | (simp only [List.length_set]; omega), by omega, by omega, fun i hi => by rw [List.getElem?_set_ne (by omega), List.getElem?_set_ne (by omega)], fun i hi => by rw [List.getElem?_set_ne (by omega), List.getElem?_set_ne (by omega)], QSeg.two (by rw [List.getElem?_set_ne (by omega), List.getElem?_set_self (by omega)]) (by rw [List.getElem?_set_self (by rw [List.length_set]; omega)]) QSeg.nil, (hB.set (by decide)).set (by decide), K⟩
  · refine g_icmpYes P0 d14_7 (feq h34).2 26 (by decide) (by decide) ?_
    refine g_aloadN P0 d14_26 rfl rfl ?_
    refine g_iloadN P0 d14_27 rfl ?_
    refine g_iloadN P0 d14_28 rfl ?_
    refine g_i2b P0 d14_29 ?_
    refine g_bastoreB (i := q) (w := c) P0 d14_30 AT (ix_iN (by omega)) (by simp only [List.length_map, List.length_set]; omega) ge (by rw [byte_id hc, byte_id hc]) fun T194 h194 P194 W194 AT => ?_
    rw [map_set'] at AT
    have K := K.wr W194 (Or.inl (List.mem_singleton.mpr rfl))
    refine g_iloadN P194 d14_31 rfl ?_
    refine g_iconst (v := (1 : Int32)) P194 d14_32 (by rfl) ?_
    refine g_iadd (v := (iN (q + 1))) P194 d14_33 (iN_add _ 1) ?_
    exact g_retI P194 d14_34 (by decide) (by decide) ⟨_, q + 1, rfl, AT, by first | omega | (simp only [List.length_set]; omega), by omega, by omega, fun i hi => by rw [List.getElem?_set_ne (by omega)], fun i hi => by rw [List.getElem?_set_ne (by omega)], QSeg.one (by rw [List.getElem?_set_self (by omega)]) h34 QSeg.nil, hB.set hc, K⟩
set_option maxRecDepth 65536 in
set_option maxHeartbeats 40000000 in
theorem rm_putu0 (l : Launch) (Z : State) (a0 : Array Value) (hw : ∀ d ∈ tables_1, d.before a0 Z = true) (h0 : Heap) (n0 : Nat) (tx : Addr) (kt : ClassId) (t : List Int32) (q : Nat) (c : Int32) (g0 : True) (AT : AL Z h0 tx kt .byte (t.map .int)) (lt : t.length = 32) (hB : AllB t) (hc : 0 ≤ c.toInt ∧ c.toInt < 128) (hq : q + 1 < 32) (ge : n0 ≤ tx) :
    Met l Z (⟨"com/example/lintel/lintel/io/CsvReaderLengthPinLaw", "put", "([BIIZZ)I"⟩ : MethodName) method_2_code 6 (some .int) ({ frames := 0, cells := 0, slots := 0, locals := 0 } : Room) n0 #[(.ref tx), (.int (iN q)), (.int c), (.int (0 : Int32)), (.int (0 : Int32))] h0 (fun v h => ∃ d, v = some (.int (iN (q + 1))) ∧ AL Z h tx kt .byte ((t.set q d).map .int) ∧ d ≠ 44 ∧ d ≠ 10 ∧ d ≠ 34 ∧ ((0 : Int32) = 1 → d ≠ 13) ∧ (0 ≤ d.toInt ∧ d.toInt < 128) ∧ Keep h0 h [tx]) := by
  refine Met.intro (by decide +kernel) ?_
  intro p e s m below meth cc T0 P0
  refine Go.cast (g' := mkF m 0 #[.val (.ref tx), .val (.int (iN q)), .val (.int c), .val (.int (0 : Int32)), .val (.int (0 : Int32)), .unset] []) (by first | (simp [entryFrame, mkF, argsToLocals, Value.category, maxLocals]; done) | rfl) ?_
  have K : Keep h0 h0 [tx] := Keep.refl _ _
  refine g_iloadN P0 d14_0 rfl ?_
  refine g_ifYes P0 d14_1 (by decide) 35 (by decide) (by decide) ?_
  refine g_iloadN P0 d14_35 rfl ?_
  refine g_istore P0 d14_36 #[.val (.ref tx), .val (.int (iN q)), .val (.int c), .val (.int (0 : Int32)), .val (.int (0 : Int32)), .val (.int c)] rfl ?_
  refine g_iload P0 d14_38 rfl ?_
  refine g_bipush (v := (44 : Int32)) P0 d14_40 (by rfl) ?_
  by_cases k44 : c = (44 : Int32)
  · refine g_icmpYes P0 d14_42 (teq k44).1 71 (by decide) (by decide) ?_
    refine g_bipush (v := (97 : Int32)) P0 d14_71 (by rfl) ?_
    refine g_istore P0 d14_73 #[.val (.ref tx), .val (.int (iN q)), .val (.int c), .val (.int (0 : Int32)), .val (.int (0 : Int32)), .val (.int (97 : Int32))] rfl ?_
    refine g_aloadN P0 d14_75 rfl rfl ?_
    refine g_iloadN P0 d14_76 rfl ?_
    refine g_iload P0 d14_77 rfl ?_
    refine g_i2b P0 d14_79 ?_
    refine g_bastoreB (i := q) (w := 97) P0 d14_80 AT (ix_iN (by omega)) (by simp only [List.length_map, List.length_set]; omega) ge (by decide) fun T195 h195 P195 W195 AT => ?_
    rw [map_set'] at AT
    have K := K.wr W195 (Or.inl (List.mem_singleton.mpr rfl))
    refine g_iloadN P195 d14_81 rfl ?_
    refine g_iconst (v := (1 : Int32)) P195 d14_82 (by rfl) ?_
    refine g_iadd (v := (iN (q + 1))) P195 d14_83 (iN_add _ 1) ?_
    exact g_retI P195 d14_84 (by decide) (by decide) ⟨97, rfl, AT, by decide, by decide, by decide, by decide, by decide, K⟩
  · refine g_icmpNo P0 d14_42 (feq k44).1 ?_
    refine g_iload P0 d14_45 rfl ?_
    refine g_bipush (v := (34 : Int32)) P0 d14_47 (by rfl) ?_
    by_cases k34 : c = (34 : Int32)
    · refine g_icmpYes P0 d14_49 (teq k34).1 71 (by decide) (by decide) ?_
      refine g_bipush (v := (97 : Int32)) P0 d14_71 (by rfl) ?_
      refine g_istore P0 d14_73 #[.val (.ref tx), .val (.int (iN q)), .val (.int c), .val (.int (0 : Int32)), .val (.int (0 : Int32)), .val (.int (97 : Int32))] rfl ?_
      refine g_aloadN P0 d14_75 rfl rfl ?_
      refine g_iloadN P0 d14_76 rfl ?_
      refine g_iload P0 d14_77 rfl ?_
      refine g_i2b P0 d14_79 ?_
      refine g_bastoreB (i := q) (w := 97) P0 d14_80 AT (ix_iN (by omega)) (by simp only [List.length_map, List.length_set]; omega) ge (by decide) fun T196 h196 P196 W196 AT => ?_
      rw [map_set'] at AT
      have K := K.wr W196 (Or.inl (List.mem_singleton.mpr rfl))
      refine g_iloadN P196 d14_81 rfl ?_
      refine g_iconst (v := (1 : Int32)) P196 d14_82 (by rfl) ?_
      refine g_iadd (v := (iN (q + 1))) P196 d14_83 (iN_add _ 1) ?_
      exact g_retI P196 d14_84 (by decide) (by decide) ⟨97, rfl, AT, by decide, by decide, by decide, by decide, by decide, K⟩
    · refine g_icmpNo P0 d14_49 (feq k34).1 ?_
      refine g_iload P0 d14_52 rfl ?_
      refine g_bipush (v := (10 : Int32)) P0 d14_54 (by rfl) ?_
      by_cases k10 : c = (10 : Int32)
      · refine g_icmpYes P0 d14_56 (teq k10).1 71 (by decide) (by decide) ?_
        refine g_bipush (v := (97 : Int32)) P0 d14_71 (by rfl) ?_
        refine g_istore P0 d14_73 #[.val (.ref tx), .val (.int (iN q)), .val (.int c), .val (.int (0 : Int32)), .val (.int (0 : Int32)), .val (.int (97 : Int32))] rfl ?_
        refine g_aloadN P0 d14_75 rfl rfl ?_
        refine g_iloadN P0 d14_76 rfl ?_
        refine g_iload P0 d14_77 rfl ?_
        refine g_i2b P0 d14_79 ?_
        refine g_bastoreB (i := q) (w := 97) P0 d14_80 AT (ix_iN (by omega)) (by simp only [List.length_map, List.length_set]; omega) ge (by decide) fun T197 h197 P197 W197 AT => ?_
        rw [map_set'] at AT
        have K := K.wr W197 (Or.inl (List.mem_singleton.mpr rfl))
        refine g_iloadN P197 d14_81 rfl ?_
        refine g_iconst (v := (1 : Int32)) P197 d14_82 (by rfl) ?_
        refine g_iadd (v := (iN (q + 1))) P197 d14_83 (iN_add _ 1) ?_
        exact g_retI P197 d14_84 (by decide) (by decide) ⟨97, rfl, AT, by decide, by decide, by decide, by decide, by decide, K⟩
      · refine g_icmpNo P0 d14_56 (feq k10).1 ?_
        refine g_iload P0 d14_59 rfl ?_
        refine g_bipush (v := (13 : Int32)) P0 d14_61 (by rfl) ?_
        by_cases k13 : c = (13 : Int32)
        · refine g_icmpNo P0 d14_63 (teq k13).2 ?_
          refine g_iload P0 d14_66 rfl ?_
          refine g_ifYes P0 d14_68 (by decide) 75 (by decide) (by decide) ?_
          refine g_aloadN P0 d14_75 rfl rfl ?_
          refine g_iloadN P0 d14_76 rfl ?_
          refine g_iload P0 d14_77 rfl ?_
          refine g_i2b P0 d14_79 ?_
          refine g_bastoreB (i := q) (w := c) P0 d14_80 AT (ix_iN (by omega)) (by simp only [List.length_map, List.length_set]; omega) ge (by rw [byte_id hc, byte_id hc]) fun T198 h198 P198 W198 AT => ?_
          rw [map_set'] at AT
          have K := K.wr W198 (Or.inl (List.mem_singleton.mpr rfl))
          refine g_iloadN P198 d14_81 rfl ?_
          refine g_iconst (v := (1 : Int32)) P198 d14_82 (by rfl) ?_
          refine g_iadd (v := (iN (q + 1))) P198 d14_83 (iN_add _ 1) ?_
          exact g_retI P198 d14_84 (by decide) (by decide) ⟨c, rfl, AT, k44, k10, k34, fun q => absurd q (by decide), hc, K⟩
        · refine g_icmpYes P0 d14_63 (feq k13).2 75 (by decide) (by decide) ?_
          refine g_aloadN P0 d14_75 rfl rfl ?_
          refine g_iloadN P0 d14_76 rfl ?_
          refine g_iload P0 d14_77 rfl ?_
          refine g_i2b P0 d14_79 ?_
          refine g_bastoreB (i := q) (w := c) P0 d14_80 AT (ix_iN (by omega)) (by simp only [List.length_map, List.length_set]; omega) ge (by rw [byte_id hc, byte_id hc]) fun T199 h199 P199 W199 AT => ?_
          rw [map_set'] at AT
          have K := K.wr W199 (Or.inl (List.mem_singleton.mpr rfl))
          refine g_iloadN P199 d14_81 rfl ?_
          refine g_iconst (v := (1 : Int32)) P199 d14_82 (by rfl) ?_
          refine g_iadd (v := (iN (q + 1))) P199 d14_83 (iN_add _ 1) ?_
          exact g_retI P199 d14_84 (by decide) (by decide) ⟨c, rfl, AT, k44, k10, k34, fun _ => k13, hc, K⟩
set_option maxRecDepth 65536 in
set_option maxHeartbeats 40000000 in
theorem rm_putu1 (l : Launch) (Z : State) (a0 : Array Value) (hw : ∀ d ∈ tables_1, d.before a0 Z = true) (h0 : Heap) (n0 : Nat) (tx : Addr) (kt : ClassId) (t : List Int32) (q : Nat) (c : Int32) (g0 : True) (AT : AL Z h0 tx kt .byte (t.map .int)) (lt : t.length = 32) (hB : AllB t) (hc : 0 ≤ c.toInt ∧ c.toInt < 128) (hq : q + 1 < 32) (ge : n0 ≤ tx) :
    Met l Z (⟨"com/example/lintel/lintel/io/CsvReaderLengthPinLaw", "put", "([BIIZZ)I"⟩ : MethodName) method_2_code 6 (some .int) ({ frames := 0, cells := 0, slots := 0, locals := 0 } : Room) n0 #[(.ref tx), (.int (iN q)), (.int c), (.int (0 : Int32)), (.int (1 : Int32))] h0 (fun v h => ∃ d, v = some (.int (iN (q + 1))) ∧ AL Z h tx kt .byte ((t.set q d).map .int) ∧ d ≠ 44 ∧ d ≠ 10 ∧ d ≠ 34 ∧ ((1 : Int32) = 1 → d ≠ 13) ∧ (0 ≤ d.toInt ∧ d.toInt < 128) ∧ Keep h0 h [tx]) := by
  refine Met.intro (by decide +kernel) ?_
  intro p e s m below meth cc T0 P0
  refine Go.cast (g' := mkF m 0 #[.val (.ref tx), .val (.int (iN q)), .val (.int c), .val (.int (0 : Int32)), .val (.int (1 : Int32)), .unset] []) (by first | (simp [entryFrame, mkF, argsToLocals, Value.category, maxLocals]; done) | rfl) ?_
  have K : Keep h0 h0 [tx] := Keep.refl _ _
  refine g_iloadN P0 d14_0 rfl ?_
  refine g_ifYes P0 d14_1 (by decide) 35 (by decide) (by decide) ?_
  refine g_iloadN P0 d14_35 rfl ?_
  refine g_istore P0 d14_36 #[.val (.ref tx), .val (.int (iN q)), .val (.int c), .val (.int (0 : Int32)), .val (.int (1 : Int32)), .val (.int c)] rfl ?_
  refine g_iload P0 d14_38 rfl ?_
  refine g_bipush (v := (44 : Int32)) P0 d14_40 (by rfl) ?_
  by_cases k44 : c = (44 : Int32)
  · refine g_icmpYes P0 d14_42 (teq k44).1 71 (by decide) (by decide) ?_
    refine g_bipush (v := (97 : Int32)) P0 d14_71 (by rfl) ?_
    refine g_istore P0 d14_73 #[.val (.ref tx), .val (.int (iN q)), .val (.int c), .val (.int (0 : Int32)), .val (.int (1 : Int32)), .val (.int (97 : Int32))] rfl ?_
    refine g_aloadN P0 d14_75 rfl rfl ?_
    refine g_iloadN P0 d14_76 rfl ?_
    refine g_iload P0 d14_77 rfl ?_
    refine g_i2b P0 d14_79 ?_
    refine g_bastoreB (i := q) (w := 97) P0 d14_80 AT (ix_iN (by omega)) (by simp only [List.length_map, List.length_set]; omega) ge (by decide) fun T200 h200 P200 W200 AT => ?_
    rw [map_set'] at AT
    have K := K.wr W200 (Or.inl (List.mem_singleton.mpr rfl))
    refine g_iloadN P200 d14_81 rfl ?_
    refine g_iconst (v := (1 : Int32)) P200 d14_82 (by rfl) ?_
    refine g_iadd (v := (iN (q + 1))) P200 d14_83 (iN_add _ 1) ?_
    exact g_retI P200 d14_84 (by decide) (by decide) ⟨97, rfl, AT, by decide, by decide, by decide, by decide, by decide, K⟩
  · refine g_icmpNo P0 d14_42 (feq k44).1 ?_
    refine g_iload P0 d14_45 rfl ?_
    refine g_bipush (v := (34 : Int32)) P0 d14_47 (by rfl) ?_
    by_cases k34 : c = (34 : Int32)
    · refine g_icmpYes P0 d14_49 (teq k34).1 71 (by decide) (by decide) ?_
      refine g_bipush (v := (97 : Int32)) P0 d14_71 (by rfl) ?_
      refine g_istore P0 d14_73 #[.val (.ref tx), .val (.int (iN q)), .val (.int c), .val (.int (0 : Int32)), .val (.int (1 : Int32)), .val (.int (97 : Int32))] rfl ?_
      refine g_aloadN P0 d14_75 rfl rfl ?_
      refine g_iloadN P0 d14_76 rfl ?_
      refine g_iload P0 d14_77 rfl ?_
      refine g_i2b P0 d14_79 ?_
      refine g_bastoreB (i := q) (w := 97) P0 d14_80 AT (ix_iN (by omega)) (by simp only [List.length_map, List.length_set]; omega) ge (by decide) fun T201 h201 P201 W201 AT => ?_
      rw [map_set'] at AT
      have K := K.wr W201 (Or.inl (List.mem_singleton.mpr rfl))
      refine g_iloadN P201 d14_81 rfl ?_
      refine g_iconst (v := (1 : Int32)) P201 d14_82 (by rfl) ?_
      refine g_iadd (v := (iN (q + 1))) P201 d14_83 (iN_add _ 1) ?_
      exact g_retI P201 d14_84 (by decide) (by decide) ⟨97, rfl, AT, by decide, by decide, by decide, by decide, by decide, K⟩
    · refine g_icmpNo P0 d14_49 (feq k34).1 ?_
      refine g_iload P0 d14_52 rfl ?_
      refine g_bipush (v := (10 : Int32)) P0 d14_54 (by rfl) ?_
      by_cases k10 : c = (10 : Int32)
      · refine g_icmpYes P0 d14_56 (teq k10).1 71 (by decide) (by decide) ?_
        refine g_bipush (v := (97 : Int32)) P0 d14_71 (by rfl) ?_
        refine g_istore P0 d14_73 #[.val (.ref tx), .val (.int (iN q)), .val (.int c), .val (.int (0 : Int32)), .val (.int (1 : Int32)), .val (.int (97 : Int32))] rfl ?_
        refine g_aloadN P0 d14_75 rfl rfl ?_
        refine g_iloadN P0 d14_76 rfl ?_
        refine g_iload P0 d14_77 rfl ?_
        refine g_i2b P0 d14_79 ?_
        refine g_bastoreB (i := q) (w := 97) P0 d14_80 AT (ix_iN (by omega)) (by simp only [List.length_map, List.length_set]; omega) ge (by decide) fun T202 h202 P202 W202 AT => ?_
        rw [map_set'] at AT
        have K := K.wr W202 (Or.inl (List.mem_singleton.mpr rfl))
        refine g_iloadN P202 d14_81 rfl ?_
        refine g_iconst (v := (1 : Int32)) P202 d14_82 (by rfl) ?_
        refine g_iadd (v := (iN (q + 1))) P202 d14_83 (iN_add _ 1) ?_
        exact g_retI P202 d14_84 (by decide) (by decide) ⟨97, rfl, AT, by decide, by decide, by decide, by decide, by decide, K⟩
      · refine g_icmpNo P0 d14_56 (feq k10).1 ?_
        refine g_iload P0 d14_59 rfl ?_
        refine g_bipush (v := (13 : Int32)) P0 d14_61 (by rfl) ?_
        by_cases k13 : c = (13 : Int32)
        · refine g_icmpNo P0 d14_63 (teq k13).2 ?_
          refine g_iload P0 d14_66 rfl ?_
          refine g_ifNo P0 d14_68 (by decide) ?_
          refine g_bipush (v := (97 : Int32)) P0 d14_71 (by rfl) ?_
          refine g_istore P0 d14_73 #[.val (.ref tx), .val (.int (iN q)), .val (.int c), .val (.int (0 : Int32)), .val (.int (1 : Int32)), .val (.int (97 : Int32))] rfl ?_
          refine g_aloadN P0 d14_75 rfl rfl ?_
          refine g_iloadN P0 d14_76 rfl ?_
          refine g_iload P0 d14_77 rfl ?_
          refine g_i2b P0 d14_79 ?_
          refine g_bastoreB (i := q) (w := 97) P0 d14_80 AT (ix_iN (by omega)) (by simp only [List.length_map, List.length_set]; omega) ge (by decide) fun T203 h203 P203 W203 AT => ?_
          rw [map_set'] at AT
          have K := K.wr W203 (Or.inl (List.mem_singleton.mpr rfl))
          refine g_iloadN P203 d14_81 rfl ?_
          refine g_iconst (v := (1 : Int32)) P203 d14_82 (by rfl) ?_
          refine g_iadd (v := (iN (q + 1))) P203 d14_83 (iN_add _ 1) ?_
          exact g_retI P203 d14_84 (by decide) (by decide) ⟨97, rfl, AT, by decide, by decide, by decide, by decide, by decide, K⟩
        · refine g_icmpYes P0 d14_63 (feq k13).2 75 (by decide) (by decide) ?_
          refine g_aloadN P0 d14_75 rfl rfl ?_
          refine g_iloadN P0 d14_76 rfl ?_
          refine g_iload P0 d14_77 rfl ?_
          refine g_i2b P0 d14_79 ?_
          refine g_bastoreB (i := q) (w := c) P0 d14_80 AT (ix_iN (by omega)) (by simp only [List.length_map, List.length_set]; omega) ge (by rw [byte_id hc, byte_id hc]) fun T204 h204 P204 W204 AT => ?_
          rw [map_set'] at AT
          have K := K.wr W204 (Or.inl (List.mem_singleton.mpr rfl))
          refine g_iloadN P204 d14_81 rfl ?_
          refine g_iconst (v := (1 : Int32)) P204 d14_82 (by rfl) ?_
          refine g_iadd (v := (iN (q + 1))) P204 d14_83 (iN_add _ 1) ?_
          exact g_retI P204 d14_84 (by decide) (by decide) ⟨c, rfl, AT, k44, k10, k34, fun _ => k13, hc, K⟩
theorem pseg_put {t : List Int32} {s e : Nat} {d : Int32} (h : t[s]? = some d) (h1 : d ≠ 44) (h2 : d ≠ 10) (h4 : d ≠ 34) (hn : d = 13 → s + 1 < e ∧ ∃ b, t[s + 1]? = some b ∧ b ≠ 10) (Q : PSeg t (s + 1) e) : PSeg t s e := by
  by_cases h3 : d = 13
  · obtain ⟨k1, b, k2, k3⟩ := hn h3
    subst h3
    exact Q.cr h k1 k2 k3
  · exact Q.one h h1 h2 h3 h4
theorem m127 (x : Int32) : 0 ≤ (x &&& (127 : Int32)).toInt ∧ (x &&& (127 : Int32)).toInt < 128 := by
  rw [Jvm.Kit.i32_mask x 127 (k := 7) (by decide) (by decide)]
  exact ⟨Int.emod_nonneg _ (by decide), Int.emod_lt_of_pos _ (by decide)⟩
theorem m3 (x : Int32) : (x &&& (3 : Int32)) = 0 ∨ (x &&& (3 : Int32)) = 1 ∨ (x &&& (3 : Int32)) = 2 ∨ (x &&& (3 : Int32)) = 3 := by
  have h3 := Jvm.Kit.i32_mask x 3 (k := 2) (by decide) (by decide)
  exact cases4 ⟨by omega, by have : (4 : Int32).toInt = 4 := rfl; omega⟩
theorem Zs.set {t : List Int32} {q e i : Nat} {v : Int32} (Z : Zs t q e) (h : i < q) : Zs (t.set i v) q e := fun j h1 h2 => by rw [List.getElem?_set_ne (by omega)]; exact Z j h1 h2
theorem Zs.sub {t : List Int32} {q e q' e' : Nat} (Z : Zs t q e) (h : q ≤ q') (h' : e' ≤ e) : Zs t q' e' := fun j h1 h2 => Z j (by omega) (by omega)
set_option maxRecDepth 65536 in
set_option maxHeartbeats 40000000 in
theorem rm_field_mid0 (l : Launch) (Z : State) (a0 : Array Value) (hw : ∀ d ∈ tables_1, d.before a0 Z = true) (h0 : Heap) (n0 : Nat) (tx xp : Addr) (kt kx : ClassId) (t xs : List Int32) (p0 xi : Nat) (iv sh by_ kv : Int32) (AT : AL Z h0 tx kt .byte (t.map .int)) (lt : t.length = 32) (hB : AllB t) (hZ : Zs t p0 32) (hp : p0 ≤ 20) (AX : AL Z h0 xp kx .int (xs.map .int)) (IX : Ix iv xi) (hxi : xi < xs.length) (ge : n0 ≤ tx) (gx : n0 ≤ xp) (xt : xp ≠ tx) (tx_ : tx ≠ xp) :
    Met l Z (⟨"com/example/lintel/lintel/io/CsvReaderLengthPinLaw", "field", "([BI[IIIIIZ)I"⟩ : MethodName) method_3_code 13 (some .int) ({ frames := 1, cells := 0, slots := 0, locals := 20 } : Room) n0 #[(.ref tx), (.int (iN p0)), (.ref xp), (.int iv), (.int sh), (.int by_), (.int kv), (.int (0 : Int32))] h0 (fun v h => ∃ t' s0 e0 f0, v = some (.int (iN f0)) ∧ AL Z h tx kt .byte (t'.map .int) ∧ t'.length = 32 ∧ AllB t' ∧ AL Z h xp kx .int ((xs.set xi (iN e0 - iN s0)).map .int) ∧ FieldAt t' p0 s0 e0 f0 ∧ f0 ≤ p0 + 8 ∧ (∀ i, i < p0 → t'[i]? = t[i]?) ∧ Zs t' f0 32 ∧ Keep h0 h [tx, xp]) := by
  refine Met.intro (by decide +kernel) ?_
  intro p e s m below meth cc T0 P0
  refine Go.cast (g' := mkF m 0 #[.val (.ref tx), .val (.int (iN p0)), .val (.ref xp), .val (.int iv), .val (.int sh), .val (.int by_), .val (.int kv), .val (.int (0 : Int32)), .unset, .unset, .unset, .unset, .unset] []) (by first | (simp [entryFrame, mkF, argsToLocals, Value.category, maxLocals]; done) | rfl) ?_
  have K : Keep h0 h0 [tx, xp] := Keep.refl _ _
  have LOW : ∀ i, i < p0 → t[i]? = t[i]? := fun _ _ => rfl
  refine g_iload P0 d1_0 rfl ?_
  refine g_iconst (v := (2 : Int32)) P0 d1_2 (by rfl) ?_
  refine g_iconst (v := (2 : Int32)) P0 d1_3 (by rfl) ?_
  refine g_iloadN P0 d1_4 rfl ?_
  refine g_imul (v := ((2 : Int32) * iv)) P0 d1_5 rfl ?_
  refine g_iadd (v := ((2 : Int32) + ((2 : Int32) * iv))) P0 d1_6 rfl ?_
  refine g_iushr (v := (XT.ushr sh ((2 : Int32) + ((2 : Int32) * iv)))) P0 d1_7 rfl ?_
  refine g_iconst (v := (3 : Int32)) P0 d1_8 (by rfl) ?_
  refine g_iand (v := ((XT.ushr sh ((2 : Int32) + ((2 : Int32) * iv))) &&& (3 : Int32))) P0 d1_9 rfl ?_
  have hn := m3 ((XT.ushr sh ((2 : Int32) + ((2 : Int32) * iv))))
  generalize ((XT.ushr sh ((2 : Int32) + ((2 : Int32) * iv))) &&& (3 : Int32)) = nn at hn ⊢
  rcases hn with rfl | rfl | rfl | rfl
  · refine g_istore P0 d1_10 #[.val (.ref tx), .val (.int (iN p0)), .val (.ref xp), .val (.int iv), .val (.int sh), .val (.int by_), .val (.int kv), .val (.int (0 : Int32)), .val (.int (0 : Int32)), .unset, .unset, .unset, .unset] rfl ?_
    refine g_iload P0 d1_12 rfl ?_
    refine g_bipush (v := (8 : Int32)) P0 d1_14 (by rfl) ?_
    refine g_iloadN P0 d1_16 rfl ?_
    refine g_iadd (v := ((8 : Int32) + iv)) P0 d1_17 rfl ?_
    refine g_iushr (v := (XT.ushr sh ((8 : Int32) + iv))) P0 d1_18 rfl ?_
    refine g_iconst (v := (1 : Int32)) P0 d1_19 (by rfl) ?_
    refine g_iand (v := ((XT.ushr sh ((8 : Int32) + iv)) &&& (1 : Int32))) P0 d1_20 rfl ?_
    by_cases hqu : ((XT.ushr sh ((8 : Int32) + iv)) &&& (1 : Int32)) = (0 : Int32)
    · refine g_ifYes P0 d1_21 ((if0 _ _).trans (teq hqu).1) 28 (by decide) (by decide) ?_
      refine g_iconst (v := (0 : Int32)) P0 d1_28 (by rfl) ?_
      refine g_istore P0 d1_29 #[.val (.ref tx), .val (.int (iN p0)), .val (.ref xp), .val (.int iv), .val (.int sh), .val (.int by_), .val (.int kv), .val (.int (0 : Int32)), .val (.int (0 : Int32)), .val (.int (0 : Int32)), .unset, .unset, .unset] rfl ?_
      refine g_iloadN P0 d1_31 rfl ?_
      refine g_iload P0 d1_32 rfl ?_
      refine g_iconst (v := (1 : Int32)) P0 d1_34 (by rfl) ?_
      refine g_isub (v := (kv - (1 : Int32))) P0 d1_35 rfl ?_
      by_cases hl : iv = (kv - (1 : Int32))
      · refine g_icmpNo P0 d1_36 (teq hl).2 ?_
        refine g_iconst (v := (1 : Int32)) P0 d1_39 (by rfl) ?_
        refine g_goto P0 d1_40 44 (by decide) (by decide) ?_
        refine g_istore P0 d1_44 #[.val (.ref tx), .val (.int (iN p0)), .val (.ref xp), .val (.int iv), .val (.int sh), .val (.int by_), .val (.int kv), .val (.int (0 : Int32)), .val (.int (0 : Int32)), .val (.int (0 : Int32)), .val (.int (1 : Int32)), .unset, .unset] rfl ?_
        refine g_iloadN P0 d1_46 rfl ?_
        refine g_istore P0 d1_47 #[.val (.ref tx), .val (.int (iN p0)), .val (.ref xp), .val (.int iv), .val (.int sh), .val (.int by_), .val (.int kv), .val (.int (0 : Int32)), .val (.int (0 : Int32)), .val (.int (0 : Int32)), .val (.int (1 : Int32)), .val (.int (iN p0)), .unset] rfl ?_
        refine g_iload P0 d1_49 rfl ?_
        refine g_ifYes P0 d1_51 (by decide) 66 (by decide) (by decide) ?_
        refine g_iload P0 d1_66 rfl ?_
        refine g_istore P0 d1_68 #[.val (.ref tx), .val (.int (iN p0)), .val (.ref xp), .val (.int iv), .val (.int sh), .val (.int by_), .val (.int kv), .val (.int (0 : Int32)), .val (.int (0 : Int32)), .val (.int (0 : Int32)), .val (.int (1 : Int32)), .val (.int (iN p0)), .val (.int (iN p0))] rfl ?_
        refine g_iload P0 d1_70 rfl ?_
        refine g_ifYes P0 d1_72 (by decide) 101 (by decide) (by decide) ?_
        refine g_iload P0 d1_101 rfl ?_
        refine g_iconst (v := (1 : Int32)) P0 d1_103 (by rfl) ?_
        refine g_icmpYes P0 d1_104 (by decide) 136 (by decide) (by decide) ?_
        refine g_iload P0 d1_136 rfl ?_
        refine g_iconst (v := (2 : Int32)) P0 d1_138 (by rfl) ?_
        refine g_icmpYes P0 d1_139 (by decide) 161 (by decide) (by decide) ?_
        refine g_iload P0 d1_161 rfl ?_
        refine g_ifNo P0 d1_163 (by decide) ?_
        refine g_iload P0 d1_166 rfl ?_
        refine g_ifYes P0 d1_168 (by decide) 204 (by decide) (by decide) ?_
        refine g_aloadN P0 d1_204 rfl rfl ?_
        refine g_iloadN P0 d1_205 rfl ?_
        refine g_iload P0 d1_206 rfl ?_
        refine g_iload P0 d1_208 rfl ?_
        refine g_isub (v := ((iN p0) - (iN p0))) P0 d1_210 rfl ?_
        have hseg : PSeg t p0 p0 := PSeg.nil
        have ltn : t.length = 32 := by first | omega | (simp only [List.length_set]; omega)
        refine g_iastore (i := xi) P0 d1_211 AX IX (by rw [List.length_map]; omega) gx fun T205 h205 P205 W205 AX => ?_
        rw [map_set'] at AX
        have K := K.wr W205 (Or.inl (by simp))
        have AT := AT.other W205 tx_
        refine g_iload P205 d1_212 rfl ?_
        refine g_ifYes P205 d1_214 (by decide) 229 (by decide) (by decide) ?_
        refine g_iload P205 d1_229 rfl ?_
        exact g_retI P205 d1_231 (by decide) (by decide) ⟨_, p0, p0, p0, rfl, AT, ltn, hB, AX, Or.inr ⟨rfl, hseg, rfl⟩, by omega, fun i hi => rfl, hZ, K⟩
      · refine g_icmpYes P0 d1_36 (feq hl).2 43 (by decide) (by decide) ?_
        refine g_iconst (v := (0 : Int32)) P0 d1_43 (by rfl) ?_
        refine g_istore P0 d1_44 #[.val (.ref tx), .val (.int (iN p0)), .val (.ref xp), .val (.int iv), .val (.int sh), .val (.int by_), .val (.int kv), .val (.int (0 : Int32)), .val (.int (0 : Int32)), .val (.int (0 : Int32)), .val (.int (0 : Int32)), .unset, .unset] rfl ?_
        refine g_iloadN P0 d1_46 rfl ?_
        refine g_istore P0 d1_47 #[.val (.ref tx), .val (.int (iN p0)), .val (.ref xp), .val (.int iv), .val (.int sh), .val (.int by_), .val (.int kv), .val (.int (0 : Int32)), .val (.int (0 : Int32)), .val (.int (0 : Int32)), .val (.int (0 : Int32)), .val (.int (iN p0)), .unset] rfl ?_
        refine g_iload P0 d1_49 rfl ?_
        refine g_ifYes P0 d1_51 (by decide) 66 (by decide) (by decide) ?_
        refine g_iload P0 d1_66 rfl ?_
        refine g_istore P0 d1_68 #[.val (.ref tx), .val (.int (iN p0)), .val (.ref xp), .val (.int iv), .val (.int sh), .val (.int by_), .val (.int kv), .val (.int (0 : Int32)), .val (.int (0 : Int32)), .val (.int (0 : Int32)), .val (.int (0 : Int32)), .val (.int (iN p0)), .val (.int (iN p0))] rfl ?_
        refine g_iload P0 d1_70 rfl ?_
        refine g_ifYes P0 d1_72 (by decide) 101 (by decide) (by decide) ?_
        refine g_iload P0 d1_101 rfl ?_
        refine g_iconst (v := (1 : Int32)) P0 d1_103 (by rfl) ?_
        refine g_icmpYes P0 d1_104 (by decide) 136 (by decide) (by decide) ?_
        refine g_iload P0 d1_136 rfl ?_
        refine g_iconst (v := (2 : Int32)) P0 d1_138 (by rfl) ?_
        refine g_icmpYes P0 d1_139 (by decide) 161 (by decide) (by decide) ?_
        refine g_iload P0 d1_161 rfl ?_
        refine g_ifYes P0 d1_163 (by decide) 204 (by decide) (by decide) ?_
        refine g_aloadN P0 d1_204 rfl rfl ?_
        refine g_iloadN P0 d1_205 rfl ?_
        refine g_iload P0 d1_206 rfl ?_
        refine g_iload P0 d1_208 rfl ?_
        refine g_isub (v := ((iN p0) - (iN p0))) P0 d1_210 rfl ?_
        have hseg : PSeg t p0 p0 := PSeg.nil
        have ltn : t.length = 32 := by first | omega | (simp only [List.length_set]; omega)
        refine g_iastore (i := xi) P0 d1_211 AX IX (by rw [List.length_map]; omega) gx fun T206 h206 P206 W206 AX => ?_
        rw [map_set'] at AX
        have K := K.wr W206 (Or.inl (by simp))
        have AT := AT.other W206 tx_
        refine g_iload P206 d1_212 rfl ?_
        refine g_ifYes P206 d1_214 (by decide) 229 (by decide) (by decide) ?_
        refine g_iload P206 d1_229 rfl ?_
        exact g_retI P206 d1_231 (by decide) (by decide) ⟨_, p0, p0, p0, rfl, AT, ltn, hB, AX, Or.inr ⟨rfl, hseg, rfl⟩, by omega, fun i hi => rfl, hZ, K⟩
    · refine g_ifNo P0 d1_21 ((if0 _ _).trans (feq hqu).1) ?_
      refine g_iconst (v := (1 : Int32)) P0 d1_24 (by rfl) ?_
      refine g_goto P0 d1_25 29 (by decide) (by decide) ?_
      refine g_istore P0 d1_29 #[.val (.ref tx), .val (.int (iN p0)), .val (.ref xp), .val (.int iv), .val (.int sh), .val (.int by_), .val (.int kv), .val (.int (0 : Int32)), .val (.int (0 : Int32)), .val (.int (1 : Int32)), .unset, .unset, .unset] rfl ?_
      refine g_iloadN P0 d1_31 rfl ?_
      refine g_iload P0 d1_32 rfl ?_
      refine g_iconst (v := (1 : Int32)) P0 d1_34 (by rfl) ?_
      refine g_isub (v := (kv - (1 : Int32))) P0 d1_35 rfl ?_
      by_cases hl : iv = (kv - (1 : Int32))
      · refine g_icmpNo P0 d1_36 (teq hl).2 ?_
        refine g_iconst (v := (1 : Int32)) P0 d1_39 (by rfl) ?_
        refine g_goto P0 d1_40 44 (by decide) (by decide) ?_
        refine g_istore P0 d1_44 #[.val (.ref tx), .val (.int (iN p0)), .val (.ref xp), .val (.int iv), .val (.int sh), .val (.int by_), .val (.int kv), .val (.int (0 : Int32)), .val (.int (0 : Int32)), .val (.int (1 : Int32)), .val (.int (1 : Int32)), .unset, .unset] rfl ?_
        refine g_iloadN P0 d1_46 rfl ?_
        refine g_istore P0 d1_47 #[.val (.ref tx), .val (.int (iN p0)), .val (.ref xp), .val (.int iv), .val (.int sh), .val (.int by_), .val (.int kv), .val (.int (0 : Int32)), .val (.int (0 : Int32)), .val (.int (1 : Int32)), .val (.int (1 : Int32)), .val (.int (iN p0)), .unset] rfl ?_
        refine g_iload P0 d1_49 rfl ?_
        refine g_ifNo P0 d1_51 (by decide) ?_
        refine g_aloadN P0 d1_54 rfl rfl ?_
        refine g_iload P0 d1_55 rfl ?_
        refine g_bipush (v := (34 : Int32)) P0 d1_57 (by rfl) ?_
        refine g_bastoreB (i := p0) (w := 34) P0 d1_59 AT (ix_iN (by omega)) (by simp only [List.length_map, List.length_set]; omega) ge (by decide) fun T207 h207 P207 W207 AT => ?_
        rw [map_set'] at AT
        have K := K.wr W207 (Or.inl (by simp))
        have AX := AX.other W207 xt
        obtain ⟨tc, htc⟩ : ∃ tc, tc = t.set p0 34 := ⟨_, rfl⟩
        rw [← htc] at AT
        have lt : tc.length = 32 := by rw [htc, List.length_set]; exact lt
        have hB : AllB tc := by rw [htc]; exact hB.set (by decide)
        have Zc : Zs tc (p0 + 1) 32 := by rw [htc]; exact (hZ.sub (by omega) (Nat.le_refl _)).set (by omega)
        have LOW : ∀ i, i < p0 → tc[i]? = t[i]? := fun i hi => by rw [htc, List.getElem?_set_ne (by omega)]
        have H34 : tc[p0]? = some 34 := by rw [htc, List.getElem?_set_self (by omega)]
        have HQ : QSeg tc (p0 + 1) (p0 + 1) := QSeg.nil
        refine g_iload P207 d1_60 rfl ?_
        refine g_iconst (v := (1 : Int32)) P207 d1_62 (by rfl) ?_
        refine g_iadd (v := (iN (p0 + 1))) P207 d1_63 (iN_add _ 1) ?_
        refine g_istore P207 d1_64 #[.val (.ref tx), .val (.int (iN p0)), .val (.ref xp), .val (.int iv), .val (.int sh), .val (.int by_), .val (.int kv), .val (.int (0 : Int32)), .val (.int (0 : Int32)), .val (.int (1 : Int32)), .val (.int (1 : Int32)), .val (.int (iN (p0 + 1))), .unset] rfl ?_
        refine g_iload P207 d1_66 rfl ?_
        refine g_istore P207 d1_68 #[.val (.ref tx), .val (.int (iN p0)), .val (.ref xp), .val (.int iv), .val (.int sh), .val (.int by_), .val (.int kv), .val (.int (0 : Int32)), .val (.int (0 : Int32)), .val (.int (1 : Int32)), .val (.int (1 : Int32)), .val (.int (iN (p0 + 1))), .val (.int (iN (p0 + 1)))] rfl ?_
        refine g_iload P207 d1_70 rfl ?_
        refine g_ifYes P207 d1_72 (by decide) 101 (by decide) (by decide) ?_
        refine g_iload P207 d1_101 rfl ?_
        refine g_iconst (v := (1 : Int32)) P207 d1_103 (by rfl) ?_
        refine g_icmpYes P207 d1_104 (by decide) 136 (by decide) (by decide) ?_
        refine g_iload P207 d1_136 rfl ?_
        refine g_iconst (v := (2 : Int32)) P207 d1_138 (by rfl) ?_
        refine g_icmpYes P207 d1_139 (by decide) 161 (by decide) (by decide) ?_
        refine g_iload P207 d1_161 rfl ?_
        refine g_ifNo P207 d1_163 (by decide) ?_
        refine g_iload P207 d1_166 rfl ?_
        refine g_ifYes P207 d1_168 (by decide) 204 (by decide) (by decide) ?_
        refine g_aloadN P207 d1_204 rfl rfl ?_
        refine g_iloadN P207 d1_205 rfl ?_
        refine g_iload P207 d1_206 rfl ?_
        refine g_iload P207 d1_208 rfl ?_
        refine g_isub (v := ((iN (p0 + 1)) - (iN (p0 + 1)))) P207 d1_210 rfl ?_
        refine g_iastore (i := xi) P207 d1_211 AX IX (by rw [List.length_map]; omega) gx fun T208 h208 P208 W208 AX => ?_
        rw [map_set'] at AX
        have K := K.wr W208 (Or.inl (by simp))
        have AT := AT.other W208 tx_
        refine g_iload P208 d1_212 rfl ?_
        refine g_ifNo P208 d1_214 (by decide) ?_
        refine g_aloadN P208 d1_217 rfl rfl ?_
        refine g_iload P208 d1_218 rfl ?_
        refine g_bipush (v := (34 : Int32)) P208 d1_220 (by rfl) ?_
        refine g_bastoreB (i := (p0 + 1)) (w := 34) P208 d1_222 AT (ix_iN (by omega)) (by simp only [List.length_map, List.length_set]; omega) ge (by decide) fun T209 h209 P209 W209 AT => ?_
        rw [map_set'] at AT
        have K := K.wr W209 (Or.inl (by simp))
        have AX := AX.other W209 xt
        refine g_iload P209 d1_223 rfl ?_
        refine g_iconst (v := (1 : Int32)) P209 d1_225 (by rfl) ?_
        refine g_iadd (v := (iN ((p0 + 1) + 1))) P209 d1_226 (iN_add _ 1) ?_
        refine g_istore P209 d1_227 #[.val (.ref tx), .val (.int (iN p0)), .val (.ref xp), .val (.int iv), .val (.int sh), .val (.int by_), .val (.int kv), .val (.int (0 : Int32)), .val (.int (0 : Int32)), .val (.int (1 : Int32)), .val (.int (1 : Int32)), .val (.int (iN ((p0 + 1) + 1))), .val (.int (iN (p0 + 1)))] rfl ?_
        refine g_iload P209 d1_229 rfl ?_
        exact g_retI P209 d1_231 (by decide) (by decide) ⟨_, p0 + 1, (p0 + 1), (p0 + 1) + 1, rfl, AT, by rw [List.length_set]; exact lt, hB.set (by decide), AX, Or.inl ⟨by rw [List.getElem?_set_ne (by omega)]; exact H34, rfl, HQ.congr (fun i hi => by rw [List.getElem?_set_ne (by omega)]), by rw [List.getElem?_set_self (by omega)], rfl⟩, by omega, fun i hi => by rw [List.getElem?_set_ne (by omega)]; exact LOW i hi, (Zc.sub (by omega) (Nat.le_refl _)).set (by omega), K⟩
      · refine g_icmpYes P0 d1_36 (feq hl).2 43 (by decide) (by decide) ?_
        refine g_iconst (v := (0 : Int32)) P0 d1_43 (by rfl) ?_
        refine g_istore P0 d1_44 #[.val (.ref tx), .val (.int (iN p0)), .val (.ref xp), .val (.int iv), .val (.int sh), .val (.int by_), .val (.int kv), .val (.int (0 : Int32)), .val (.int (0 : Int32)), .val (.int (1 : Int32)), .val (.int (0 : Int32)), .unset, .unset] rfl ?_
        refine g_iloadN P0 d1_46 rfl ?_
        refine g_istore P0 d1_47 #[.val (.ref tx), .val (.int (iN p0)), .val (.ref xp), .val (.int iv), .val (.int sh), .val (.int by_), .val (.int kv), .val (.int (0 : Int32)), .val (.int (0 : Int32)), .val (.int (1 : Int32)), .val (.int (0 : Int32)), .val (.int (iN p0)), .unset] rfl ?_
        refine g_iload P0 d1_49 rfl ?_
        refine g_ifNo P0 d1_51 (by decide) ?_
        refine g_aloadN P0 d1_54 rfl rfl ?_
        refine g_iload P0 d1_55 rfl ?_
        refine g_bipush (v := (34 : Int32)) P0 d1_57 (by rfl) ?_
        refine g_bastoreB (i := p0) (w := 34) P0 d1_59 AT (ix_iN (by omega)) (by simp only [List.length_map, List.length_set]; omega) ge (by decide) fun T210 h210 P210 W210 AT => ?_
        rw [map_set'] at AT
        have K := K.wr W210 (Or.inl (by simp))
        have AX := AX.other W210 xt
        obtain ⟨tc, htc⟩ : ∃ tc, tc = t.set p0 34 := ⟨_, rfl⟩
        rw [← htc] at AT
        have lt : tc.length = 32 := by rw [htc, List.length_set]; exact lt
        have hB : AllB tc := by rw [htc]; exact hB.set (by decide)
        have Zc : Zs tc (p0 + 1) 32 := by rw [htc]; exact (hZ.sub (by omega) (Nat.le_refl _)).set (by omega)
        have LOW : ∀ i, i < p0 → tc[i]? = t[i]? := fun i hi => by rw [htc, List.getElem?_set_ne (by omega)]
        have H34 : tc[p0]? = some 34 := by rw [htc, List.getElem?_set_self (by omega)]
        have HQ : QSeg tc (p0 + 1) (p0 + 1) := QSeg.nil
        refine g_iload P210 d1_60 rfl ?_
        refine g_iconst (v := (1 : Int32)) P210 d1_62 (by rfl) ?_
        refine g_iadd (v := (iN (p0 + 1))) P210 d1_63 (iN_add _ 1) ?_
        refine g_istore P210 d1_64 #[.val (.ref tx), .val (.int (iN p0)), .val (.ref xp), .val (.int iv), .val (.int sh), .val (.int by_), .val (.int kv), .val (.int (0 : Int32)), .val (.int (0 : Int32)), .val (.int (1 : Int32)), .val (.int (0 : Int32)), .val (.int (iN (p0 + 1))), .unset] rfl ?_
        refine g_iload P210 d1_66 rfl ?_
        refine g_istore P210 d1_68 #[.val (.ref tx), .val (.int (iN p0)), .val (.ref xp), .val (.int iv), .val (.int sh), .val (.int by_), .val (.int kv), .val (.int (0 : Int32)), .val (.int (0 : Int32)), .val (.int (1 : Int32)), .val (.int (0 : Int32)), .val (.int (iN (p0 + 1))), .val (.int (iN (p0 + 1)))] rfl ?_
        refine g_iload P210 d1_70 rfl ?_
        refine g_ifYes P210 d1_72 (by decide) 101 (by decide) (by decide) ?_
        refine g_iload P210 d1_101 rfl ?_
        refine g_iconst (v := (1 : Int32)) P210 d1_103 (by rfl) ?_
        refine g_icmpYes P210 d1_104 (by decide) 136 (by decide) (by decide) ?_
        refine g_iload P210 d1_136 rfl ?_
        refine g_iconst (v := (2 : Int32)) P210 d1_138 (by rfl) ?_
        refine g_icmpYes P210 d1_139 (by decide) 161 (by decide) (by decide) ?_
        refine g_iload P210 d1_161 rfl ?_
        refine g_ifYes P210 d1_163 (by decide) 204 (by decide) (by decide) ?_
        refine g_aloadN P210 d1_204 rfl rfl ?_
        refine g_iloadN P210 d1_205 rfl ?_
        refine g_iload P210 d1_206 rfl ?_
        refine g_iload P210 d1_208 rfl ?_
        refine g_isub (v := ((iN (p0 + 1)) - (iN (p0 + 1)))) P210 d1_210 rfl ?_
        refine g_iastore (i := xi) P210 d1_211 AX IX (by rw [List.length_map]; omega) gx fun T211 h211 P211 W211 AX => ?_
        rw [map_set'] at AX
        have K := K.wr W211 (Or.inl (by simp))
        have AT := AT.other W211 tx_
        refine g_iload P211 d1_212 rfl ?_
        refine g_ifNo P211 d1_214 (by decide) ?_
        refine g_aloadN P211 d1_217 rfl rfl ?_
        refine g_iload P211 d1_218 rfl ?_
        refine g_bipush (v := (34 : Int32)) P211 d1_220 (by rfl) ?_
        refine g_bastoreB (i := (p0 + 1)) (w := 34) P211 d1_222 AT (ix_iN (by omega)) (by simp only [List.length_map, List.length_set]; omega) ge (by decide) fun T212 h212 P212 W212 AT => ?_
        rw [map_set'] at AT
        have K := K.wr W212 (Or.inl (by simp))
        have AX := AX.other W212 xt
        refine g_iload P212 d1_223 rfl ?_
        refine g_iconst (v := (1 : Int32)) P212 d1_225 (by rfl) ?_
        refine g_iadd (v := (iN ((p0 + 1) + 1))) P212 d1_226 (iN_add _ 1) ?_
        refine g_istore P212 d1_227 #[.val (.ref tx), .val (.int (iN p0)), .val (.ref xp), .val (.int iv), .val (.int sh), .val (.int by_), .val (.int kv), .val (.int (0 : Int32)), .val (.int (0 : Int32)), .val (.int (1 : Int32)), .val (.int (0 : Int32)), .val (.int (iN ((p0 + 1) + 1))), .val (.int (iN (p0 + 1)))] rfl ?_
        refine g_iload P212 d1_229 rfl ?_
        exact g_retI P212 d1_231 (by decide) (by decide) ⟨_, p0 + 1, (p0 + 1), (p0 + 1) + 1, rfl, AT, by rw [List.length_set]; exact lt, hB.set (by decide), AX, Or.inl ⟨by rw [List.getElem?_set_ne (by omega)]; exact H34, rfl, HQ.congr (fun i hi => by rw [List.getElem?_set_ne (by omega)]), by rw [List.getElem?_set_self (by omega)], rfl⟩, by omega, fun i hi => by rw [List.getElem?_set_ne (by omega)]; exact LOW i hi, (Zc.sub (by omega) (Nat.le_refl _)).set (by omega), K⟩
  · refine g_istore P0 d1_10 #[.val (.ref tx), .val (.int (iN p0)), .val (.ref xp), .val (.int iv), .val (.int sh), .val (.int by_), .val (.int kv), .val (.int (0 : Int32)), .val (.int (1 : Int32)), .unset, .unset, .unset, .unset] rfl ?_
    refine g_iload P0 d1_12 rfl ?_
    refine g_bipush (v := (8 : Int32)) P0 d1_14 (by rfl) ?_
    refine g_iloadN P0 d1_16 rfl ?_
    refine g_iadd (v := ((8 : Int32) + iv)) P0 d1_17 rfl ?_
    refine g_iushr (v := (XT.ushr sh ((8 : Int32) + iv))) P0 d1_18 rfl ?_
    refine g_iconst (v := (1 : Int32)) P0 d1_19 (by rfl) ?_
    refine g_iand (v := ((XT.ushr sh ((8 : Int32) + iv)) &&& (1 : Int32))) P0 d1_20 rfl ?_
    by_cases hqu : ((XT.ushr sh ((8 : Int32) + iv)) &&& (1 : Int32)) = (0 : Int32)
    · refine g_ifYes P0 d1_21 ((if0 _ _).trans (teq hqu).1) 28 (by decide) (by decide) ?_
      refine g_iconst (v := (0 : Int32)) P0 d1_28 (by rfl) ?_
      refine g_istore P0 d1_29 #[.val (.ref tx), .val (.int (iN p0)), .val (.ref xp), .val (.int iv), .val (.int sh), .val (.int by_), .val (.int kv), .val (.int (0 : Int32)), .val (.int (1 : Int32)), .val (.int (0 : Int32)), .unset, .unset, .unset] rfl ?_
      refine g_iloadN P0 d1_31 rfl ?_
      refine g_iload P0 d1_32 rfl ?_
      refine g_iconst (v := (1 : Int32)) P0 d1_34 (by rfl) ?_
      refine g_isub (v := (kv - (1 : Int32))) P0 d1_35 rfl ?_
      by_cases hl : iv = (kv - (1 : Int32))
      · refine g_icmpNo P0 d1_36 (teq hl).2 ?_
        refine g_iconst (v := (1 : Int32)) P0 d1_39 (by rfl) ?_
        refine g_goto P0 d1_40 44 (by decide) (by decide) ?_
        refine g_istore P0 d1_44 #[.val (.ref tx), .val (.int (iN p0)), .val (.ref xp), .val (.int iv), .val (.int sh), .val (.int by_), .val (.int kv), .val (.int (0 : Int32)), .val (.int (1 : Int32)), .val (.int (0 : Int32)), .val (.int (1 : Int32)), .unset, .unset] rfl ?_
        refine g_iloadN P0 d1_46 rfl ?_
        refine g_istore P0 d1_47 #[.val (.ref tx), .val (.int (iN p0)), .val (.ref xp), .val (.int iv), .val (.int sh), .val (.int by_), .val (.int kv), .val (.int (0 : Int32)), .val (.int (1 : Int32)), .val (.int (0 : Int32)), .val (.int (1 : Int32)), .val (.int (iN p0)), .unset] rfl ?_
        refine g_iload P0 d1_49 rfl ?_
        refine g_ifYes P0 d1_51 (by decide) 66 (by decide) (by decide) ?_
        refine g_iload P0 d1_66 rfl ?_
        refine g_istore P0 d1_68 #[.val (.ref tx), .val (.int (iN p0)), .val (.ref xp), .val (.int iv), .val (.int sh), .val (.int by_), .val (.int kv), .val (.int (0 : Int32)), .val (.int (1 : Int32)), .val (.int (0 : Int32)), .val (.int (1 : Int32)), .val (.int (iN p0)), .val (.int (iN p0))] rfl ?_
        refine g_iload P0 d1_70 rfl ?_
        refine g_ifNo P0 d1_72 (by decide) ?_
        refine g_aloadN P0 d1_75 rfl rfl ?_
        refine g_iload P0 d1_76 rfl ?_
        refine g_iload P0 d1_78 rfl ?_
        refine g_bipush (v := (127 : Int32)) P0 d1_80 (by rfl) ?_
        refine g_iand (v := (by_ &&& (127 : Int32))) P0 d1_82 rfl ?_
        refine g_iload P0 d1_83 rfl ?_
        refine g_iload P0 d1_85 rfl ?_
        refine g_iconst (v := (1 : Int32)) P0 d1_87 (by rfl) ?_
        refine g_icmpNo P0 d1_88 (by decide) ?_
        refine g_iconst (v := (1 : Int32)) P0 d1_91 (by rfl) ?_
        refine g_goto P0 d1_92 96 (by decide) (by decide) ?_
        refine g_static P0 [(.ref tx), (.int (iN p0)), (.int (by_ &&& (127 : Int32))), (.int (0 : Int32)), (.int (1 : Int32))] (rest := []) (W := 0) d1_96 (hw _ (List.mem_of_getElem? (i := 78) rfl)) (hw _ (List.mem_of_getElem? (i := 79) rfl)) (hw _ (List.mem_of_getElem? (i := 4) rfl)) (hw _ (List.mem_of_getElem? (i := 80) rfl)) (by decide) (rm_putu1 l Z a0 hw _ n0 tx kt t p0 (by_ &&& (127 : Int32)) trivial AT (by first | omega | (simp only [List.length_set]; omega)) hB (m127 _) (by omega) ge) pd_7 rfl rfl rfl rfl (by decide) (by decide) (by decide) (by decide) fun v213 T213 h213 P213 q213 => ?_
        obtain ⟨d0, rfl, AT, x0, y0, z0, w0, v0, K'⟩ := q213
        have K := K.trans K' (fun x hx => Or.inl (by simp at hx; simp [hx]))
        have AX := AX.keep K' (ninS xt nin0)
        have hB0 := hB.set (i := p0) v0
        refine g_istore P213 d1_99 #[.val (.ref tx), .val (.int (iN p0)), .val (.ref xp), .val (.int iv), .val (.int sh), .val (.int by_), .val (.int kv), .val (.int (0 : Int32)), .val (.int (1 : Int32)), .val (.int (0 : Int32)), .val (.int (1 : Int32)), .val (.int (iN (p0 + 1))), .val (.int (iN p0))] rfl ?_
        refine g_iload P213 d1_101 rfl ?_
        refine g_iconst (v := (1 : Int32)) P213 d1_103 (by rfl) ?_
        refine g_icmpYes P213 d1_104 (by decide) 136 (by decide) (by decide) ?_
        refine g_iload P213 d1_136 rfl ?_
        refine g_iconst (v := (2 : Int32)) P213 d1_138 (by rfl) ?_
        refine g_icmpYes P213 d1_139 (by decide) 161 (by decide) (by decide) ?_
        refine g_iload P213 d1_161 rfl ?_
        refine g_ifNo P213 d1_163 (by decide) ?_
        refine g_iload P213 d1_166 rfl ?_
        refine g_ifYes P213 d1_168 (by decide) 204 (by decide) (by decide) ?_
        refine g_aloadN P213 d1_204 rfl rfl ?_
        refine g_iloadN P213 d1_205 rfl ?_
        refine g_iload P213 d1_206 rfl ?_
        refine g_iload P213 d1_208 rfl ?_
        refine g_isub (v := ((iN (p0 + 1)) - (iN p0))) P213 d1_210 rfl ?_
        have Zc : Zs (t.set p0 d0) (p0 + 1) 32 := ((hZ.sub (by omega) (Nat.le_refl _)).set (i := p0) (v := d0) (by omega))
        have hseg : PSeg (t.set p0 d0) p0 (p0 + 1) := (pseg_put (by rw [List.getElem?_set_self (by first | omega | (simp only [List.length_set]; omega))]) x0 y0 z0 (fun q => absurd q (w0 rfl)) PSeg.nil)
        have ltn : (t.set p0 d0).length = 32 := by first | omega | (simp only [List.length_set]; omega)
        refine g_iastore (i := xi) P213 d1_211 AX IX (by rw [List.length_map]; omega) gx fun T214 h214 P214 W214 AX => ?_
        rw [map_set'] at AX
        have K := K.wr W214 (Or.inl (by simp))
        have AT := AT.other W214 tx_
        refine g_iload P214 d1_212 rfl ?_
        refine g_ifYes P214 d1_214 (by decide) 229 (by decide) (by decide) ?_
        refine g_iload P214 d1_229 rfl ?_
        exact g_retI P214 d1_231 (by decide) (by decide) ⟨_, p0, (p0 + 1), (p0 + 1), rfl, AT, ltn, hB0, AX, Or.inr ⟨rfl, hseg, rfl⟩, by omega, fun i hi => by rw [List.getElem?_set_ne (by omega)], Zc, K⟩
      · refine g_icmpYes P0 d1_36 (feq hl).2 43 (by decide) (by decide) ?_
        refine g_iconst (v := (0 : Int32)) P0 d1_43 (by rfl) ?_
        refine g_istore P0 d1_44 #[.val (.ref tx), .val (.int (iN p0)), .val (.ref xp), .val (.int iv), .val (.int sh), .val (.int by_), .val (.int kv), .val (.int (0 : Int32)), .val (.int (1 : Int32)), .val (.int (0 : Int32)), .val (.int (0 : Int32)), .unset, .unset] rfl ?_
        refine g_iloadN P0 d1_46 rfl ?_
        refine g_istore P0 d1_47 #[.val (.ref tx), .val (.int (iN p0)), .val (.ref xp), .val (.int iv), .val (.int sh), .val (.int by_), .val (.int kv), .val (.int (0 : Int32)), .val (.int (1 : Int32)), .val (.int (0 : Int32)), .val (.int (0 : Int32)), .val (.int (iN p0)), .unset] rfl ?_
        refine g_iload P0 d1_49 rfl ?_
        refine g_ifYes P0 d1_51 (by decide) 66 (by decide) (by decide) ?_
        refine g_iload P0 d1_66 rfl ?_
        refine g_istore P0 d1_68 #[.val (.ref tx), .val (.int (iN p0)), .val (.ref xp), .val (.int iv), .val (.int sh), .val (.int by_), .val (.int kv), .val (.int (0 : Int32)), .val (.int (1 : Int32)), .val (.int (0 : Int32)), .val (.int (0 : Int32)), .val (.int (iN p0)), .val (.int (iN p0))] rfl ?_
        refine g_iload P0 d1_70 rfl ?_
        refine g_ifNo P0 d1_72 (by decide) ?_
        refine g_aloadN P0 d1_75 rfl rfl ?_
        refine g_iload P0 d1_76 rfl ?_
        refine g_iload P0 d1_78 rfl ?_
        refine g_bipush (v := (127 : Int32)) P0 d1_80 (by rfl) ?_
        refine g_iand (v := (by_ &&& (127 : Int32))) P0 d1_82 rfl ?_
        refine g_iload P0 d1_83 rfl ?_
        refine g_iload P0 d1_85 rfl ?_
        refine g_iconst (v := (1 : Int32)) P0 d1_87 (by rfl) ?_
        refine g_icmpNo P0 d1_88 (by decide) ?_
        refine g_iconst (v := (1 : Int32)) P0 d1_91 (by rfl) ?_
        refine g_goto P0 d1_92 96 (by decide) (by decide) ?_
        refine g_static P0 [(.ref tx), (.int (iN p0)), (.int (by_ &&& (127 : Int32))), (.int (0 : Int32)), (.int (1 : Int32))] (rest := []) (W := 0) d1_96 (hw _ (List.mem_of_getElem? (i := 78) rfl)) (hw _ (List.mem_of_getElem? (i := 79) rfl)) (hw _ (List.mem_of_getElem? (i := 4) rfl)) (hw _ (List.mem_of_getElem? (i := 80) rfl)) (by decide) (rm_putu1 l Z a0 hw _ n0 tx kt t p0 (by_ &&& (127 : Int32)) trivial AT (by first | omega | (simp only [List.length_set]; omega)) hB (m127 _) (by omega) ge) pd_7 rfl rfl rfl rfl (by decide) (by decide) (by decide) (by decide) fun v215 T215 h215 P215 q215 => ?_
        obtain ⟨d0, rfl, AT, x0, y0, z0, w0, v0, K'⟩ := q215
        have K := K.trans K' (fun x hx => Or.inl (by simp at hx; simp [hx]))
        have AX := AX.keep K' (ninS xt nin0)
        have hB0 := hB.set (i := p0) v0
        refine g_istore P215 d1_99 #[.val (.ref tx), .val (.int (iN p0)), .val (.ref xp), .val (.int iv), .val (.int sh), .val (.int by_), .val (.int kv), .val (.int (0 : Int32)), .val (.int (1 : Int32)), .val (.int (0 : Int32)), .val (.int (0 : Int32)), .val (.int (iN (p0 + 1))), .val (.int (iN p0))] rfl ?_
        refine g_iload P215 d1_101 rfl ?_
        refine g_iconst (v := (1 : Int32)) P215 d1_103 (by rfl) ?_
        refine g_icmpYes P215 d1_104 (by decide) 136 (by decide) (by decide) ?_
        refine g_iload P215 d1_136 rfl ?_
        refine g_iconst (v := (2 : Int32)) P215 d1_138 (by rfl) ?_
        refine g_icmpYes P215 d1_139 (by decide) 161 (by decide) (by decide) ?_
        refine g_iload P215 d1_161 rfl ?_
        refine g_ifYes P215 d1_163 (by decide) 204 (by decide) (by decide) ?_
        refine g_aloadN P215 d1_204 rfl rfl ?_
        refine g_iloadN P215 d1_205 rfl ?_
        refine g_iload P215 d1_206 rfl ?_
        refine g_iload P215 d1_208 rfl ?_
        refine g_isub (v := ((iN (p0 + 1)) - (iN p0))) P215 d1_210 rfl ?_
        have Zc : Zs (t.set p0 d0) (p0 + 1) 32 := ((hZ.sub (by omega) (Nat.le_refl _)).set (i := p0) (v := d0) (by omega))
        have hseg : PSeg (t.set p0 d0) p0 (p0 + 1) := (pseg_put (by rw [List.getElem?_set_self (by first | omega | (simp only [List.length_set]; omega))]) x0 y0 z0 (fun q => absurd q (w0 rfl)) PSeg.nil)
        have ltn : (t.set p0 d0).length = 32 := by first | omega | (simp only [List.length_set]; omega)
        refine g_iastore (i := xi) P215 d1_211 AX IX (by rw [List.length_map]; omega) gx fun T216 h216 P216 W216 AX => ?_
        rw [map_set'] at AX
        have K := K.wr W216 (Or.inl (by simp))
        have AT := AT.other W216 tx_
        refine g_iload P216 d1_212 rfl ?_
        refine g_ifYes P216 d1_214 (by decide) 229 (by decide) (by decide) ?_
        refine g_iload P216 d1_229 rfl ?_
        exact g_retI P216 d1_231 (by decide) (by decide) ⟨_, p0, (p0 + 1), (p0 + 1), rfl, AT, ltn, hB0, AX, Or.inr ⟨rfl, hseg, rfl⟩, by omega, fun i hi => by rw [List.getElem?_set_ne (by omega)], Zc, K⟩
    · refine g_ifNo P0 d1_21 ((if0 _ _).trans (feq hqu).1) ?_
      refine g_iconst (v := (1 : Int32)) P0 d1_24 (by rfl) ?_
      refine g_goto P0 d1_25 29 (by decide) (by decide) ?_
      refine g_istore P0 d1_29 #[.val (.ref tx), .val (.int (iN p0)), .val (.ref xp), .val (.int iv), .val (.int sh), .val (.int by_), .val (.int kv), .val (.int (0 : Int32)), .val (.int (1 : Int32)), .val (.int (1 : Int32)), .unset, .unset, .unset] rfl ?_
      refine g_iloadN P0 d1_31 rfl ?_
      refine g_iload P0 d1_32 rfl ?_
      refine g_iconst (v := (1 : Int32)) P0 d1_34 (by rfl) ?_
      refine g_isub (v := (kv - (1 : Int32))) P0 d1_35 rfl ?_
      by_cases hl : iv = (kv - (1 : Int32))
      · refine g_icmpNo P0 d1_36 (teq hl).2 ?_
        refine g_iconst (v := (1 : Int32)) P0 d1_39 (by rfl) ?_
        refine g_goto P0 d1_40 44 (by decide) (by decide) ?_
        refine g_istore P0 d1_44 #[.val (.ref tx), .val (.int (iN p0)), .val (.ref xp), .val (.int iv), .val (.int sh), .val (.int by_), .val (.int kv), .val (.int (0 : Int32)), .val (.int (1 : Int32)), .val (.int (1 : Int32)), .val (.int (1 : Int32)), .unset, .unset] rfl ?_
        refine g_iloadN P0 d1_46 rfl ?_
        refine g_istore P0 d1_47 #[.val (.ref tx), .val (.int (iN p0)), .val (.ref xp), .val (.int iv), .val (.int sh), .val (.int by_), .val (.int kv), .val (.int (0 : Int32)), .val (.int (1 : Int32)), .val (.int (1 : Int32)), .val (.int (1 : Int32)), .val (.int (iN p0)), .unset] rfl ?_
        refine g_iload P0 d1_49 rfl ?_
        refine g_ifNo P0 d1_51 (by decide) ?_
        refine g_aloadN P0 d1_54 rfl rfl ?_
        refine g_iload P0 d1_55 rfl ?_
        refine g_bipush (v := (34 : Int32)) P0 d1_57 (by rfl) ?_
        refine g_bastoreB (i := p0) (w := 34) P0 d1_59 AT (ix_iN (by omega)) (by simp only [List.length_map, List.length_set]; omega) ge (by decide) fun T217 h217 P217 W217 AT => ?_
        rw [map_set'] at AT
        have K := K.wr W217 (Or.inl (by simp))
        have AX := AX.other W217 xt
        obtain ⟨tc, htc⟩ : ∃ tc, tc = t.set p0 34 := ⟨_, rfl⟩
        rw [← htc] at AT
        have lt : tc.length = 32 := by rw [htc, List.length_set]; exact lt
        have hB : AllB tc := by rw [htc]; exact hB.set (by decide)
        have Zc : Zs tc (p0 + 1) 32 := by rw [htc]; exact (hZ.sub (by omega) (Nat.le_refl _)).set (by omega)
        have LOW : ∀ i, i < p0 → tc[i]? = t[i]? := fun i hi => by rw [htc, List.getElem?_set_ne (by omega)]
        have H34 : tc[p0]? = some 34 := by rw [htc, List.getElem?_set_self (by omega)]
        have HQ : QSeg tc (p0 + 1) (p0 + 1) := QSeg.nil
        refine g_iload P217 d1_60 rfl ?_
        refine g_iconst (v := (1 : Int32)) P217 d1_62 (by rfl) ?_
        refine g_iadd (v := (iN (p0 + 1))) P217 d1_63 (iN_add _ 1) ?_
        refine g_istore P217 d1_64 #[.val (.ref tx), .val (.int (iN p0)), .val (.ref xp), .val (.int iv), .val (.int sh), .val (.int by_), .val (.int kv), .val (.int (0 : Int32)), .val (.int (1 : Int32)), .val (.int (1 : Int32)), .val (.int (1 : Int32)), .val (.int (iN (p0 + 1))), .unset] rfl ?_
        refine g_iload P217 d1_66 rfl ?_
        refine g_istore P217 d1_68 #[.val (.ref tx), .val (.int (iN p0)), .val (.ref xp), .val (.int iv), .val (.int sh), .val (.int by_), .val (.int kv), .val (.int (0 : Int32)), .val (.int (1 : Int32)), .val (.int (1 : Int32)), .val (.int (1 : Int32)), .val (.int (iN (p0 + 1))), .val (.int (iN (p0 + 1)))] rfl ?_
        refine g_iload P217 d1_70 rfl ?_
        refine g_ifNo P217 d1_72 (by decide) ?_
        refine g_aloadN P217 d1_75 rfl rfl ?_
        refine g_iload P217 d1_76 rfl ?_
        refine g_iload P217 d1_78 rfl ?_
        refine g_bipush (v := (127 : Int32)) P217 d1_80 (by rfl) ?_
        refine g_iand (v := (by_ &&& (127 : Int32))) P217 d1_82 rfl ?_
        refine g_iload P217 d1_83 rfl ?_
        refine g_iload P217 d1_85 rfl ?_
        refine g_iconst (v := (1 : Int32)) P217 d1_87 (by rfl) ?_
        refine g_icmpNo P217 d1_88 (by decide) ?_
        refine g_iconst (v := (1 : Int32)) P217 d1_91 (by rfl) ?_
        refine g_goto P217 d1_92 96 (by decide) (by decide) ?_
        refine g_static P217 [(.ref tx), (.int (iN (p0 + 1))), (.int (by_ &&& (127 : Int32))), (.int (1 : Int32)), (.int (1 : Int32))] (rest := []) (W := 0) d1_96 (hw _ (List.mem_of_getElem? (i := 78) rfl)) (hw _ (List.mem_of_getElem? (i := 79) rfl)) (hw _ (List.mem_of_getElem? (i := 4) rfl)) (hw _ (List.mem_of_getElem? (i := 80) rfl)) (by decide) (rm_putq l Z a0 hw _ n0 tx kt tc (p0 + 1) (by_ &&& (127 : Int32)) (1 : Int32) trivial AT lt hB (m127 _) (by omega) ge) pd_7 rfl rfl rfl rfl (by decide) (by decide) (by decide) (by decide) fun v218 T218 h218 P218 q218 => ?_
        obtain ⟨t0, q0, rfl, AT, lt, ha0, hb0, hlow, hhigh, hQ, hB, K'⟩ := q218
        have K := K.trans K' (fun x hx => Or.inl (by simp at hx; simp [hx]))
        have AX := AX.keep K' (ninS xt nin0)
        have HQ := (HQ.congr hlow).trans hQ
        have Zc : Zs t0 q0 32 := fun i h1 h2 => (hhigh i h1).trans (Zc i (by omega) h2)
        have LOW : ∀ i, i < p0 → t0[i]? = t[i]? := fun i hi => (hlow i (by omega)).trans (LOW i hi)
        have H34 := (hlow p0 (by omega)).trans H34
        refine g_istore P218 d1_99 #[.val (.ref tx), .val (.int (iN p0)), .val (.ref xp), .val (.int iv), .val (.int sh), .val (.int by_), .val (.int kv), .val (.int (0 : Int32)), .val (.int (1 : Int32)), .val (.int (1 : Int32)), .val (.int (1 : Int32)), .val (.int (iN q0)), .val (.int (iN (p0 + 1)))] rfl ?_
        refine g_iload P218 d1_101 rfl ?_
        refine g_iconst (v := (1 : Int32)) P218 d1_103 (by rfl) ?_
        refine g_icmpYes P218 d1_104 (by decide) 136 (by decide) (by decide) ?_
        refine g_iload P218 d1_136 rfl ?_
        refine g_iconst (v := (2 : Int32)) P218 d1_138 (by rfl) ?_
        refine g_icmpYes P218 d1_139 (by decide) 161 (by decide) (by decide) ?_
        refine g_iload P218 d1_161 rfl ?_
        refine g_ifNo P218 d1_163 (by decide) ?_
        refine g_iload P218 d1_166 rfl ?_
        refine g_ifYes P218 d1_168 (by decide) 204 (by decide) (by decide) ?_
        refine g_aloadN P218 d1_204 rfl rfl ?_
        refine g_iloadN P218 d1_205 rfl ?_
        refine g_iload P218 d1_206 rfl ?_
        refine g_iload P218 d1_208 rfl ?_
        refine g_isub (v := ((iN q0) - (iN (p0 + 1)))) P218 d1_210 rfl ?_
        refine g_iastore (i := xi) P218 d1_211 AX IX (by rw [List.length_map]; omega) gx fun T219 h219 P219 W219 AX => ?_
        rw [map_set'] at AX
        have K := K.wr W219 (Or.inl (by simp))
        have AT := AT.other W219 tx_
        refine g_iload P219 d1_212 rfl ?_
        refine g_ifNo P219 d1_214 (by decide) ?_
        refine g_aloadN P219 d1_217 rfl rfl ?_
        refine g_iload P219 d1_218 rfl ?_
        refine g_bipush (v := (34 : Int32)) P219 d1_220 (by rfl) ?_
        refine g_bastoreB (i := q0) (w := 34) P219 d1_222 AT (ix_iN (by omega)) (by simp only [List.length_map, List.length_set]; omega) ge (by decide) fun T220 h220 P220 W220 AT => ?_
        rw [map_set'] at AT
        have K := K.wr W220 (Or.inl (by simp))
        have AX := AX.other W220 xt
        refine g_iload P220 d1_223 rfl ?_
        refine g_iconst (v := (1 : Int32)) P220 d1_225 (by rfl) ?_
        refine g_iadd (v := (iN (q0 + 1))) P220 d1_226 (iN_add _ 1) ?_
        refine g_istore P220 d1_227 #[.val (.ref tx), .val (.int (iN p0)), .val (.ref xp), .val (.int iv), .val (.int sh), .val (.int by_), .val (.int kv), .val (.int (0 : Int32)), .val (.int (1 : Int32)), .val (.int (1 : Int32)), .val (.int (1 : Int32)), .val (.int (iN (q0 + 1))), .val (.int (iN (p0 + 1)))] rfl ?_
        refine g_iload P220 d1_229 rfl ?_
        exact g_retI P220 d1_231 (by decide) (by decide) ⟨_, p0 + 1, q0, q0 + 1, rfl, AT, by rw [List.length_set]; exact lt, hB.set (by decide), AX, Or.inl ⟨by rw [List.getElem?_set_ne (by omega)]; exact H34, rfl, HQ.congr (fun i hi => by rw [List.getElem?_set_ne (by omega)]), by rw [List.getElem?_set_self (by omega)], rfl⟩, by omega, fun i hi => by rw [List.getElem?_set_ne (by omega)]; exact LOW i hi, (Zc.sub (by omega) (Nat.le_refl _)).set (by omega), K⟩
      · refine g_icmpYes P0 d1_36 (feq hl).2 43 (by decide) (by decide) ?_
        refine g_iconst (v := (0 : Int32)) P0 d1_43 (by rfl) ?_
        refine g_istore P0 d1_44 #[.val (.ref tx), .val (.int (iN p0)), .val (.ref xp), .val (.int iv), .val (.int sh), .val (.int by_), .val (.int kv), .val (.int (0 : Int32)), .val (.int (1 : Int32)), .val (.int (1 : Int32)), .val (.int (0 : Int32)), .unset, .unset] rfl ?_
        refine g_iloadN P0 d1_46 rfl ?_
        refine g_istore P0 d1_47 #[.val (.ref tx), .val (.int (iN p0)), .val (.ref xp), .val (.int iv), .val (.int sh), .val (.int by_), .val (.int kv), .val (.int (0 : Int32)), .val (.int (1 : Int32)), .val (.int (1 : Int32)), .val (.int (0 : Int32)), .val (.int (iN p0)), .unset] rfl ?_
        refine g_iload P0 d1_49 rfl ?_
        refine g_ifNo P0 d1_51 (by decide) ?_
        refine g_aloadN P0 d1_54 rfl rfl ?_
        refine g_iload P0 d1_55 rfl ?_
        refine g_bipush (v := (34 : Int32)) P0 d1_57 (by rfl) ?_
        refine g_bastoreB (i := p0) (w := 34) P0 d1_59 AT (ix_iN (by omega)) (by simp only [List.length_map, List.length_set]; omega) ge (by decide) fun T221 h221 P221 W221 AT => ?_
        rw [map_set'] at AT
        have K := K.wr W221 (Or.inl (by simp))
        have AX := AX.other W221 xt
        obtain ⟨tc, htc⟩ : ∃ tc, tc = t.set p0 34 := ⟨_, rfl⟩
        rw [← htc] at AT
        have lt : tc.length = 32 := by rw [htc, List.length_set]; exact lt
        have hB : AllB tc := by rw [htc]; exact hB.set (by decide)
        have Zc : Zs tc (p0 + 1) 32 := by rw [htc]; exact (hZ.sub (by omega) (Nat.le_refl _)).set (by omega)
        have LOW : ∀ i, i < p0 → tc[i]? = t[i]? := fun i hi => by rw [htc, List.getElem?_set_ne (by omega)]
        have H34 : tc[p0]? = some 34 := by rw [htc, List.getElem?_set_self (by omega)]
        have HQ : QSeg tc (p0 + 1) (p0 + 1) := QSeg.nil
        refine g_iload P221 d1_60 rfl ?_
        refine g_iconst (v := (1 : Int32)) P221 d1_62 (by rfl) ?_
        refine g_iadd (v := (iN (p0 + 1))) P221 d1_63 (iN_add _ 1) ?_
        refine g_istore P221 d1_64 #[.val (.ref tx), .val (.int (iN p0)), .val (.ref xp), .val (.int iv), .val (.int sh), .val (.int by_), .val (.int kv), .val (.int (0 : Int32)), .val (.int (1 : Int32)), .val (.int (1 : Int32)), .val (.int (0 : Int32)), .val (.int (iN (p0 + 1))), .unset] rfl ?_
        refine g_iload P221 d1_66 rfl ?_
        refine g_istore P221 d1_68 #[.val (.ref tx), .val (.int (iN p0)), .val (.ref xp), .val (.int iv), .val (.int sh), .val (.int by_), .val (.int kv), .val (.int (0 : Int32)), .val (.int (1 : Int32)), .val (.int (1 : Int32)), .val (.int (0 : Int32)), .val (.int (iN (p0 + 1))), .val (.int (iN (p0 + 1)))] rfl ?_
        refine g_iload P221 d1_70 rfl ?_
        refine g_ifNo P221 d1_72 (by decide) ?_
        refine g_aloadN P221 d1_75 rfl rfl ?_
        refine g_iload P221 d1_76 rfl ?_
        refine g_iload P221 d1_78 rfl ?_
        refine g_bipush (v := (127 : Int32)) P221 d1_80 (by rfl) ?_
        refine g_iand (v := (by_ &&& (127 : Int32))) P221 d1_82 rfl ?_
        refine g_iload P221 d1_83 rfl ?_
        refine g_iload P221 d1_85 rfl ?_
        refine g_iconst (v := (1 : Int32)) P221 d1_87 (by rfl) ?_
        refine g_icmpNo P221 d1_88 (by decide) ?_
        refine g_iconst (v := (1 : Int32)) P221 d1_91 (by rfl) ?_
        refine g_goto P221 d1_92 96 (by decide) (by decide) ?_
        refine g_static P221 [(.ref tx), (.int (iN (p0 + 1))), (.int (by_ &&& (127 : Int32))), (.int (1 : Int32)), (.int (1 : Int32))] (rest := []) (W := 0) d1_96 (hw _ (List.mem_of_getElem? (i := 78) rfl)) (hw _ (List.mem_of_getElem? (i := 79) rfl)) (hw _ (List.mem_of_getElem? (i := 4) rfl)) (hw _ (List.mem_of_getElem? (i := 80) rfl)) (by decide) (rm_putq l Z a0 hw _ n0 tx kt tc (p0 + 1) (by_ &&& (127 : Int32)) (1 : Int32) trivial AT lt hB (m127 _) (by omega) ge) pd_7 rfl rfl rfl rfl (by decide) (by decide) (by decide) (by decide) fun v222 T222 h222 P222 q222 => ?_
        obtain ⟨t0, q0, rfl, AT, lt, ha0, hb0, hlow, hhigh, hQ, hB, K'⟩ := q222
        have K := K.trans K' (fun x hx => Or.inl (by simp at hx; simp [hx]))
        have AX := AX.keep K' (ninS xt nin0)
        have HQ := (HQ.congr hlow).trans hQ
        have Zc : Zs t0 q0 32 := fun i h1 h2 => (hhigh i h1).trans (Zc i (by omega) h2)
        have LOW : ∀ i, i < p0 → t0[i]? = t[i]? := fun i hi => (hlow i (by omega)).trans (LOW i hi)
        have H34 := (hlow p0 (by omega)).trans H34
        refine g_istore P222 d1_99 #[.val (.ref tx), .val (.int (iN p0)), .val (.ref xp), .val (.int iv), .val (.int sh), .val (.int by_), .val (.int kv), .val (.int (0 : Int32)), .val (.int (1 : Int32)), .val (.int (1 : Int32)), .val (.int (0 : Int32)), .val (.int (iN q0)), .val (.int (iN (p0 + 1)))] rfl ?_
        refine g_iload P222 d1_101 rfl ?_
        refine g_iconst (v := (1 : Int32)) P222 d1_103 (by rfl) ?_
        refine g_icmpYes P222 d1_104 (by decide) 136 (by decide) (by decide) ?_
        refine g_iload P222 d1_136 rfl ?_
        refine g_iconst (v := (2 : Int32)) P222 d1_138 (by rfl) ?_
        refine g_icmpYes P222 d1_139 (by decide) 161 (by decide) (by decide) ?_
        refine g_iload P222 d1_161 rfl ?_
        refine g_ifYes P222 d1_163 (by decide) 204 (by decide) (by decide) ?_
        refine g_aloadN P222 d1_204 rfl rfl ?_
        refine g_iloadN P222 d1_205 rfl ?_
        refine g_iload P222 d1_206 rfl ?_
        refine g_iload P222 d1_208 rfl ?_
        refine g_isub (v := ((iN q0) - (iN (p0 + 1)))) P222 d1_210 rfl ?_
        refine g_iastore (i := xi) P222 d1_211 AX IX (by rw [List.length_map]; omega) gx fun T223 h223 P223 W223 AX => ?_
        rw [map_set'] at AX
        have K := K.wr W223 (Or.inl (by simp))
        have AT := AT.other W223 tx_
        refine g_iload P223 d1_212 rfl ?_
        refine g_ifNo P223 d1_214 (by decide) ?_
        refine g_aloadN P223 d1_217 rfl rfl ?_
        refine g_iload P223 d1_218 rfl ?_
        refine g_bipush (v := (34 : Int32)) P223 d1_220 (by rfl) ?_
        refine g_bastoreB (i := q0) (w := 34) P223 d1_222 AT (ix_iN (by omega)) (by simp only [List.length_map, List.length_set]; omega) ge (by decide) fun T224 h224 P224 W224 AT => ?_
        rw [map_set'] at AT
        have K := K.wr W224 (Or.inl (by simp))
        have AX := AX.other W224 xt
        refine g_iload P224 d1_223 rfl ?_
        refine g_iconst (v := (1 : Int32)) P224 d1_225 (by rfl) ?_
        refine g_iadd (v := (iN (q0 + 1))) P224 d1_226 (iN_add _ 1) ?_
        refine g_istore P224 d1_227 #[.val (.ref tx), .val (.int (iN p0)), .val (.ref xp), .val (.int iv), .val (.int sh), .val (.int by_), .val (.int kv), .val (.int (0 : Int32)), .val (.int (1 : Int32)), .val (.int (1 : Int32)), .val (.int (0 : Int32)), .val (.int (iN (q0 + 1))), .val (.int (iN (p0 + 1)))] rfl ?_
        refine g_iload P224 d1_229 rfl ?_
        exact g_retI P224 d1_231 (by decide) (by decide) ⟨_, p0 + 1, q0, q0 + 1, rfl, AT, by rw [List.length_set]; exact lt, hB.set (by decide), AX, Or.inl ⟨by rw [List.getElem?_set_ne (by omega)]; exact H34, rfl, HQ.congr (fun i hi => by rw [List.getElem?_set_ne (by omega)]), by rw [List.getElem?_set_self (by omega)], rfl⟩, by omega, fun i hi => by rw [List.getElem?_set_ne (by omega)]; exact LOW i hi, (Zc.sub (by omega) (Nat.le_refl _)).set (by omega), K⟩
  · refine g_istore P0 d1_10 #[.val (.ref tx), .val (.int (iN p0)), .val (.ref xp), .val (.int iv), .val (.int sh), .val (.int by_), .val (.int kv), .val (.int (0 : Int32)), .val (.int (2 : Int32)), .unset, .unset, .unset, .unset] rfl ?_
    refine g_iload P0 d1_12 rfl ?_
    refine g_bipush (v := (8 : Int32)) P0 d1_14 (by rfl) ?_
    refine g_iloadN P0 d1_16 rfl ?_
    refine g_iadd (v := ((8 : Int32) + iv)) P0 d1_17 rfl ?_
    refine g_iushr (v := (XT.ushr sh ((8 : Int32) + iv))) P0 d1_18 rfl ?_
    refine g_iconst (v := (1 : Int32)) P0 d1_19 (by rfl) ?_
    refine g_iand (v := ((XT.ushr sh ((8 : Int32) + iv)) &&& (1 : Int32))) P0 d1_20 rfl ?_
    by_cases hqu : ((XT.ushr sh ((8 : Int32) + iv)) &&& (1 : Int32)) = (0 : Int32)
    · refine g_ifYes P0 d1_21 ((if0 _ _).trans (teq hqu).1) 28 (by decide) (by decide) ?_
      refine g_iconst (v := (0 : Int32)) P0 d1_28 (by rfl) ?_
      refine g_istore P0 d1_29 #[.val (.ref tx), .val (.int (iN p0)), .val (.ref xp), .val (.int iv), .val (.int sh), .val (.int by_), .val (.int kv), .val (.int (0 : Int32)), .val (.int (2 : Int32)), .val (.int (0 : Int32)), .unset, .unset, .unset] rfl ?_
      refine g_iloadN P0 d1_31 rfl ?_
      refine g_iload P0 d1_32 rfl ?_
      refine g_iconst (v := (1 : Int32)) P0 d1_34 (by rfl) ?_
      refine g_isub (v := (kv - (1 : Int32))) P0 d1_35 rfl ?_
      by_cases hl : iv = (kv - (1 : Int32))
      · refine g_icmpNo P0 d1_36 (teq hl).2 ?_
        refine g_iconst (v := (1 : Int32)) P0 d1_39 (by rfl) ?_
        refine g_goto P0 d1_40 44 (by decide) (by decide) ?_
        refine g_istore P0 d1_44 #[.val (.ref tx), .val (.int (iN p0)), .val (.ref xp), .val (.int iv), .val (.int sh), .val (.int by_), .val (.int kv), .val (.int (0 : Int32)), .val (.int (2 : Int32)), .val (.int (0 : Int32)), .val (.int (1 : Int32)), .unset, .unset] rfl ?_
        refine g_iloadN P0 d1_46 rfl ?_
        refine g_istore P0 d1_47 #[.val (.ref tx), .val (.int (iN p0)), .val (.ref xp), .val (.int iv), .val (.int sh), .val (.int by_), .val (.int kv), .val (.int (0 : Int32)), .val (.int (2 : Int32)), .val (.int (0 : Int32)), .val (.int (1 : Int32)), .val (.int (iN p0)), .unset] rfl ?_
        refine g_iload P0 d1_49 rfl ?_
        refine g_ifYes P0 d1_51 (by decide) 66 (by decide) (by decide) ?_
        refine g_iload P0 d1_66 rfl ?_
        refine g_istore P0 d1_68 #[.val (.ref tx), .val (.int (iN p0)), .val (.ref xp), .val (.int iv), .val (.int sh), .val (.int by_), .val (.int kv), .val (.int (0 : Int32)), .val (.int (2 : Int32)), .val (.int (0 : Int32)), .val (.int (1 : Int32)), .val (.int (iN p0)), .val (.int (iN p0))] rfl ?_
        refine g_iload P0 d1_70 rfl ?_
        refine g_ifNo P0 d1_72 (by decide) ?_
        refine g_aloadN P0 d1_75 rfl rfl ?_
        refine g_iload P0 d1_76 rfl ?_
        refine g_iload P0 d1_78 rfl ?_
        refine g_bipush (v := (127 : Int32)) P0 d1_80 (by rfl) ?_
        refine g_iand (v := (by_ &&& (127 : Int32))) P0 d1_82 rfl ?_
        refine g_iload P0 d1_83 rfl ?_
        refine g_iload P0 d1_85 rfl ?_
        refine g_iconst (v := (1 : Int32)) P0 d1_87 (by rfl) ?_
        refine g_icmpYes P0 d1_88 (by decide) 95 (by decide) (by decide) ?_
        refine g_iconst (v := (0 : Int32)) P0 d1_95 (by rfl) ?_
        refine g_static P0 [(.ref tx), (.int (iN p0)), (.int (by_ &&& (127 : Int32))), (.int (0 : Int32)), (.int (0 : Int32))] (rest := []) (W := 0) d1_96 (hw _ (List.mem_of_getElem? (i := 78) rfl)) (hw _ (List.mem_of_getElem? (i := 79) rfl)) (hw _ (List.mem_of_getElem? (i := 4) rfl)) (hw _ (List.mem_of_getElem? (i := 80) rfl)) (by decide) (rm_putu0 l Z a0 hw _ n0 tx kt t p0 (by_ &&& (127 : Int32)) trivial AT (by first | omega | (simp only [List.length_set]; omega)) hB (m127 _) (by omega) ge) pd_7 rfl rfl rfl rfl (by decide) (by decide) (by decide) (by decide) fun v225 T225 h225 P225 q225 => ?_
        obtain ⟨d0, rfl, AT, x0, y0, z0, w0, v0, K'⟩ := q225
        have K := K.trans K' (fun x hx => Or.inl (by simp at hx; simp [hx]))
        have AX := AX.keep K' (ninS xt nin0)
        have hB0 := hB.set (i := p0) v0
        refine g_istore P225 d1_99 #[.val (.ref tx), .val (.int (iN p0)), .val (.ref xp), .val (.int iv), .val (.int sh), .val (.int by_), .val (.int kv), .val (.int (0 : Int32)), .val (.int (2 : Int32)), .val (.int (0 : Int32)), .val (.int (1 : Int32)), .val (.int (iN (p0 + 1))), .val (.int (iN p0))] rfl ?_
        refine g_iload P225 d1_101 rfl ?_
        refine g_iconst (v := (1 : Int32)) P225 d1_103 (by rfl) ?_
        refine g_icmpNo P225 d1_104 (by decide) ?_
        refine g_aloadN P225 d1_107 rfl rfl ?_
        refine g_iload P225 d1_108 rfl ?_
        refine g_iload P225 d1_110 rfl ?_
        refine g_bipush (v := (8 : Int32)) P225 d1_112 (by rfl) ?_
        refine g_iushr (v := (XT.ushr by_ (8 : Int32))) P225 d1_114 rfl ?_
        refine g_bipush (v := (127 : Int32)) P225 d1_115 (by rfl) ?_
        refine g_iand (v := ((XT.ushr by_ (8 : Int32)) &&& (127 : Int32))) P225 d1_117 rfl ?_
        refine g_iload P225 d1_118 rfl ?_
        refine g_iload P225 d1_120 rfl ?_
        refine g_iconst (v := (2 : Int32)) P225 d1_122 (by rfl) ?_
        refine g_icmpNo P225 d1_123 (by decide) ?_
        refine g_iconst (v := (1 : Int32)) P225 d1_126 (by rfl) ?_
        refine g_goto P225 d1_127 131 (by decide) (by decide) ?_
        refine g_static P225 [(.ref tx), (.int (iN (p0 + 1))), (.int ((XT.ushr by_ (8 : Int32)) &&& (127 : Int32))), (.int (0 : Int32)), (.int (1 : Int32))] (rest := []) (W := 0) d1_131 (hw _ (List.mem_of_getElem? (i := 78) rfl)) (hw _ (List.mem_of_getElem? (i := 79) rfl)) (hw _ (List.mem_of_getElem? (i := 4) rfl)) (hw _ (List.mem_of_getElem? (i := 80) rfl)) (by decide) (rm_putu1 l Z a0 hw _ n0 tx kt (t.set p0 d0) (p0 + 1) ((XT.ushr by_ (8 : Int32)) &&& (127 : Int32)) trivial AT (by first | omega | (simp only [List.length_set]; omega)) hB0 (m127 _) (by omega) ge) pd_7 rfl rfl rfl rfl (by decide) (by decide) (by decide) (by decide) fun v226 T226 h226 P226 q226 => ?_
        obtain ⟨d1, rfl, AT, x1, y1, z1, w1, v1, K'⟩ := q226
        have K := K.trans K' (fun x hx => Or.inl (by simp at hx; simp [hx]))
        have AX := AX.keep K' (ninS xt nin0)
        have hB1 := hB0.set (i := (p0 + 1)) v1
        refine g_istore P226 d1_134 #[.val (.ref tx), .val (.int (iN p0)), .val (.ref xp), .val (.int iv), .val (.int sh), .val (.int by_), .val (.int kv), .val (.int (0 : Int32)), .val (.int (2 : Int32)), .val (.int (0 : Int32)), .val (.int (1 : Int32)), .val (.int (iN (p0 + 1 + 1))), .val (.int (iN p0))] rfl ?_
        refine g_iload P226 d1_136 rfl ?_
        refine g_iconst (v := (2 : Int32)) P226 d1_138 (by rfl) ?_
        refine g_icmpYes P226 d1_139 (by decide) 161 (by decide) (by decide) ?_
        refine g_iload P226 d1_161 rfl ?_
        refine g_ifNo P226 d1_163 (by decide) ?_
        refine g_iload P226 d1_166 rfl ?_
        refine g_ifYes P226 d1_168 (by decide) 204 (by decide) (by decide) ?_
        refine g_aloadN P226 d1_204 rfl rfl ?_
        refine g_iloadN P226 d1_205 rfl ?_
        refine g_iload P226 d1_206 rfl ?_
        refine g_iload P226 d1_208 rfl ?_
        refine g_isub (v := ((iN (p0 + 1 + 1)) - (iN p0))) P226 d1_210 rfl ?_
        have Zc : Zs ((t.set p0 d0).set (p0 + 1) d1) (p0 + 2) 32 := (((hZ.sub (by omega) (Nat.le_refl _)).set (i := p0) (v := d0) (by omega)).set (i := (p0 + 1)) (v := d1) (by omega))
        have hseg : PSeg ((t.set p0 d0).set (p0 + 1) d1) p0 (p0 + 2) := (pseg_put (by rw [List.getElem?_set_ne (by omega), List.getElem?_set_self (by first | omega | (simp only [List.length_set]; omega))]) x0 y0 z0 (fun _ => ⟨by omega, d1, (by rw [List.getElem?_set_self (by first | omega | (simp only [List.length_set]; omega))]), y1⟩) (pseg_put (by rw [List.getElem?_set_self (by first | omega | (simp only [List.length_set]; omega))]) x1 y1 z1 (fun q => absurd q (w1 rfl)) PSeg.nil))
        have ltn : ((t.set p0 d0).set (p0 + 1) d1).length = 32 := by first | omega | (simp only [List.length_set]; omega)
        refine g_iastore (i := xi) P226 d1_211 AX IX (by rw [List.length_map]; omega) gx fun T227 h227 P227 W227 AX => ?_
        rw [map_set'] at AX
        have K := K.wr W227 (Or.inl (by simp))
        have AT := AT.other W227 tx_
        refine g_iload P227 d1_212 rfl ?_
        refine g_ifYes P227 d1_214 (by decide) 229 (by decide) (by decide) ?_
        refine g_iload P227 d1_229 rfl ?_
        exact g_retI P227 d1_231 (by decide) (by decide) ⟨_, p0, (p0 + 2), (p0 + 2), rfl, AT, ltn, hB1, AX, Or.inr ⟨rfl, hseg, rfl⟩, by omega, fun i hi => by rw [List.getElem?_set_ne (by omega), List.getElem?_set_ne (by omega)], Zc, K⟩
      · refine g_icmpYes P0 d1_36 (feq hl).2 43 (by decide) (by decide) ?_
        refine g_iconst (v := (0 : Int32)) P0 d1_43 (by rfl) ?_
        refine g_istore P0 d1_44 #[.val (.ref tx), .val (.int (iN p0)), .val (.ref xp), .val (.int iv), .val (.int sh), .val (.int by_), .val (.int kv), .val (.int (0 : Int32)), .val (.int (2 : Int32)), .val (.int (0 : Int32)), .val (.int (0 : Int32)), .unset, .unset] rfl ?_
        refine g_iloadN P0 d1_46 rfl ?_
        refine g_istore P0 d1_47 #[.val (.ref tx), .val (.int (iN p0)), .val (.ref xp), .val (.int iv), .val (.int sh), .val (.int by_), .val (.int kv), .val (.int (0 : Int32)), .val (.int (2 : Int32)), .val (.int (0 : Int32)), .val (.int (0 : Int32)), .val (.int (iN p0)), .unset] rfl ?_
        refine g_iload P0 d1_49 rfl ?_
        refine g_ifYes P0 d1_51 (by decide) 66 (by decide) (by decide) ?_
        refine g_iload P0 d1_66 rfl ?_
        refine g_istore P0 d1_68 #[.val (.ref tx), .val (.int (iN p0)), .val (.ref xp), .val (.int iv), .val (.int sh), .val (.int by_), .val (.int kv), .val (.int (0 : Int32)), .val (.int (2 : Int32)), .val (.int (0 : Int32)), .val (.int (0 : Int32)), .val (.int (iN p0)), .val (.int (iN p0))] rfl ?_
        refine g_iload P0 d1_70 rfl ?_
        refine g_ifNo P0 d1_72 (by decide) ?_
        refine g_aloadN P0 d1_75 rfl rfl ?_
        refine g_iload P0 d1_76 rfl ?_
        refine g_iload P0 d1_78 rfl ?_
        refine g_bipush (v := (127 : Int32)) P0 d1_80 (by rfl) ?_
        refine g_iand (v := (by_ &&& (127 : Int32))) P0 d1_82 rfl ?_
        refine g_iload P0 d1_83 rfl ?_
        refine g_iload P0 d1_85 rfl ?_
        refine g_iconst (v := (1 : Int32)) P0 d1_87 (by rfl) ?_
        refine g_icmpYes P0 d1_88 (by decide) 95 (by decide) (by decide) ?_
        refine g_iconst (v := (0 : Int32)) P0 d1_95 (by rfl) ?_
        refine g_static P0 [(.ref tx), (.int (iN p0)), (.int (by_ &&& (127 : Int32))), (.int (0 : Int32)), (.int (0 : Int32))] (rest := []) (W := 0) d1_96 (hw _ (List.mem_of_getElem? (i := 78) rfl)) (hw _ (List.mem_of_getElem? (i := 79) rfl)) (hw _ (List.mem_of_getElem? (i := 4) rfl)) (hw _ (List.mem_of_getElem? (i := 80) rfl)) (by decide) (rm_putu0 l Z a0 hw _ n0 tx kt t p0 (by_ &&& (127 : Int32)) trivial AT (by first | omega | (simp only [List.length_set]; omega)) hB (m127 _) (by omega) ge) pd_7 rfl rfl rfl rfl (by decide) (by decide) (by decide) (by decide) fun v228 T228 h228 P228 q228 => ?_
        obtain ⟨d0, rfl, AT, x0, y0, z0, w0, v0, K'⟩ := q228
        have K := K.trans K' (fun x hx => Or.inl (by simp at hx; simp [hx]))
        have AX := AX.keep K' (ninS xt nin0)
        have hB0 := hB.set (i := p0) v0
        refine g_istore P228 d1_99 #[.val (.ref tx), .val (.int (iN p0)), .val (.ref xp), .val (.int iv), .val (.int sh), .val (.int by_), .val (.int kv), .val (.int (0 : Int32)), .val (.int (2 : Int32)), .val (.int (0 : Int32)), .val (.int (0 : Int32)), .val (.int (iN (p0 + 1))), .val (.int (iN p0))] rfl ?_
        refine g_iload P228 d1_101 rfl ?_
        refine g_iconst (v := (1 : Int32)) P228 d1_103 (by rfl) ?_
        refine g_icmpNo P228 d1_104 (by decide) ?_
        refine g_aloadN P228 d1_107 rfl rfl ?_
        refine g_iload P228 d1_108 rfl ?_
        refine g_iload P228 d1_110 rfl ?_
        refine g_bipush (v := (8 : Int32)) P228 d1_112 (by rfl) ?_
        refine g_iushr (v := (XT.ushr by_ (8 : Int32))) P228 d1_114 rfl ?_
        refine g_bipush (v := (127 : Int32)) P228 d1_115 (by rfl) ?_
        refine g_iand (v := ((XT.ushr by_ (8 : Int32)) &&& (127 : Int32))) P228 d1_117 rfl ?_
        refine g_iload P228 d1_118 rfl ?_
        refine g_iload P228 d1_120 rfl ?_
        refine g_iconst (v := (2 : Int32)) P228 d1_122 (by rfl) ?_
        refine g_icmpNo P228 d1_123 (by decide) ?_
        refine g_iconst (v := (1 : Int32)) P228 d1_126 (by rfl) ?_
        refine g_goto P228 d1_127 131 (by decide) (by decide) ?_
        refine g_static P228 [(.ref tx), (.int (iN (p0 + 1))), (.int ((XT.ushr by_ (8 : Int32)) &&& (127 : Int32))), (.int (0 : Int32)), (.int (1 : Int32))] (rest := []) (W := 0) d1_131 (hw _ (List.mem_of_getElem? (i := 78) rfl)) (hw _ (List.mem_of_getElem? (i := 79) rfl)) (hw _ (List.mem_of_getElem? (i := 4) rfl)) (hw _ (List.mem_of_getElem? (i := 80) rfl)) (by decide) (rm_putu1 l Z a0 hw _ n0 tx kt (t.set p0 d0) (p0 + 1) ((XT.ushr by_ (8 : Int32)) &&& (127 : Int32)) trivial AT (by first | omega | (simp only [List.length_set]; omega)) hB0 (m127 _) (by omega) ge) pd_7 rfl rfl rfl rfl (by decide) (by decide) (by decide) (by decide) fun v229 T229 h229 P229 q229 => ?_
        obtain ⟨d1, rfl, AT, x1, y1, z1, w1, v1, K'⟩ := q229
        have K := K.trans K' (fun x hx => Or.inl (by simp at hx; simp [hx]))
        have AX := AX.keep K' (ninS xt nin0)
        have hB1 := hB0.set (i := (p0 + 1)) v1
        refine g_istore P229 d1_134 #[.val (.ref tx), .val (.int (iN p0)), .val (.ref xp), .val (.int iv), .val (.int sh), .val (.int by_), .val (.int kv), .val (.int (0 : Int32)), .val (.int (2 : Int32)), .val (.int (0 : Int32)), .val (.int (0 : Int32)), .val (.int (iN (p0 + 1 + 1))), .val (.int (iN p0))] rfl ?_
        refine g_iload P229 d1_136 rfl ?_
        refine g_iconst (v := (2 : Int32)) P229 d1_138 (by rfl) ?_
        refine g_icmpYes P229 d1_139 (by decide) 161 (by decide) (by decide) ?_
        refine g_iload P229 d1_161 rfl ?_
        refine g_ifYes P229 d1_163 (by decide) 204 (by decide) (by decide) ?_
        refine g_aloadN P229 d1_204 rfl rfl ?_
        refine g_iloadN P229 d1_205 rfl ?_
        refine g_iload P229 d1_206 rfl ?_
        refine g_iload P229 d1_208 rfl ?_
        refine g_isub (v := ((iN (p0 + 1 + 1)) - (iN p0))) P229 d1_210 rfl ?_
        have Zc : Zs ((t.set p0 d0).set (p0 + 1) d1) (p0 + 2) 32 := (((hZ.sub (by omega) (Nat.le_refl _)).set (i := p0) (v := d0) (by omega)).set (i := (p0 + 1)) (v := d1) (by omega))
        have hseg : PSeg ((t.set p0 d0).set (p0 + 1) d1) p0 (p0 + 2) := (pseg_put (by rw [List.getElem?_set_ne (by omega), List.getElem?_set_self (by first | omega | (simp only [List.length_set]; omega))]) x0 y0 z0 (fun _ => ⟨by omega, d1, (by rw [List.getElem?_set_self (by first | omega | (simp only [List.length_set]; omega))]), y1⟩) (pseg_put (by rw [List.getElem?_set_self (by first | omega | (simp only [List.length_set]; omega))]) x1 y1 z1 (fun q => absurd q (w1 rfl)) PSeg.nil))
        have ltn : ((t.set p0 d0).set (p0 + 1) d1).length = 32 := by first | omega | (simp only [List.length_set]; omega)
        refine g_iastore (i := xi) P229 d1_211 AX IX (by rw [List.length_map]; omega) gx fun T230 h230 P230 W230 AX => ?_
        rw [map_set'] at AX
        have K := K.wr W230 (Or.inl (by simp))
        have AT := AT.other W230 tx_
        refine g_iload P230 d1_212 rfl ?_
        refine g_ifYes P230 d1_214 (by decide) 229 (by decide) (by decide) ?_
        refine g_iload P230 d1_229 rfl ?_
        exact g_retI P230 d1_231 (by decide) (by decide) ⟨_, p0, (p0 + 2), (p0 + 2), rfl, AT, ltn, hB1, AX, Or.inr ⟨rfl, hseg, rfl⟩, by omega, fun i hi => by rw [List.getElem?_set_ne (by omega), List.getElem?_set_ne (by omega)], Zc, K⟩
    · refine g_ifNo P0 d1_21 ((if0 _ _).trans (feq hqu).1) ?_
      refine g_iconst (v := (1 : Int32)) P0 d1_24 (by rfl) ?_
      refine g_goto P0 d1_25 29 (by decide) (by decide) ?_
      refine g_istore P0 d1_29 #[.val (.ref tx), .val (.int (iN p0)), .val (.ref xp), .val (.int iv), .val (.int sh), .val (.int by_), .val (.int kv), .val (.int (0 : Int32)), .val (.int (2 : Int32)), .val (.int (1 : Int32)), .unset, .unset, .unset] rfl ?_
      refine g_iloadN P0 d1_31 rfl ?_
      refine g_iload P0 d1_32 rfl ?_
      refine g_iconst (v := (1 : Int32)) P0 d1_34 (by rfl) ?_
      refine g_isub (v := (kv - (1 : Int32))) P0 d1_35 rfl ?_
      by_cases hl : iv = (kv - (1 : Int32))
      · refine g_icmpNo P0 d1_36 (teq hl).2 ?_
        refine g_iconst (v := (1 : Int32)) P0 d1_39 (by rfl) ?_
        refine g_goto P0 d1_40 44 (by decide) (by decide) ?_
        refine g_istore P0 d1_44 #[.val (.ref tx), .val (.int (iN p0)), .val (.ref xp), .val (.int iv), .val (.int sh), .val (.int by_), .val (.int kv), .val (.int (0 : Int32)), .val (.int (2 : Int32)), .val (.int (1 : Int32)), .val (.int (1 : Int32)), .unset, .unset] rfl ?_
        refine g_iloadN P0 d1_46 rfl ?_
        refine g_istore P0 d1_47 #[.val (.ref tx), .val (.int (iN p0)), .val (.ref xp), .val (.int iv), .val (.int sh), .val (.int by_), .val (.int kv), .val (.int (0 : Int32)), .val (.int (2 : Int32)), .val (.int (1 : Int32)), .val (.int (1 : Int32)), .val (.int (iN p0)), .unset] rfl ?_
        refine g_iload P0 d1_49 rfl ?_
        refine g_ifNo P0 d1_51 (by decide) ?_
        refine g_aloadN P0 d1_54 rfl rfl ?_
        refine g_iload P0 d1_55 rfl ?_
        refine g_bipush (v := (34 : Int32)) P0 d1_57 (by rfl) ?_
        refine g_bastoreB (i := p0) (w := 34) P0 d1_59 AT (ix_iN (by omega)) (by simp only [List.length_map, List.length_set]; omega) ge (by decide) fun T231 h231 P231 W231 AT => ?_
        rw [map_set'] at AT
        have K := K.wr W231 (Or.inl (by simp))
        have AX := AX.other W231 xt
        obtain ⟨tc, htc⟩ : ∃ tc, tc = t.set p0 34 := ⟨_, rfl⟩
        rw [← htc] at AT
        have lt : tc.length = 32 := by rw [htc, List.length_set]; exact lt
        have hB : AllB tc := by rw [htc]; exact hB.set (by decide)
        have Zc : Zs tc (p0 + 1) 32 := by rw [htc]; exact (hZ.sub (by omega) (Nat.le_refl _)).set (by omega)
        have LOW : ∀ i, i < p0 → tc[i]? = t[i]? := fun i hi => by rw [htc, List.getElem?_set_ne (by omega)]
        have H34 : tc[p0]? = some 34 := by rw [htc, List.getElem?_set_self (by omega)]
        have HQ : QSeg tc (p0 + 1) (p0 + 1) := QSeg.nil
        refine g_iload P231 d1_60 rfl ?_
        refine g_iconst (v := (1 : Int32)) P231 d1_62 (by rfl) ?_
        refine g_iadd (v := (iN (p0 + 1))) P231 d1_63 (iN_add _ 1) ?_
        refine g_istore P231 d1_64 #[.val (.ref tx), .val (.int (iN p0)), .val (.ref xp), .val (.int iv), .val (.int sh), .val (.int by_), .val (.int kv), .val (.int (0 : Int32)), .val (.int (2 : Int32)), .val (.int (1 : Int32)), .val (.int (1 : Int32)), .val (.int (iN (p0 + 1))), .unset] rfl ?_
        refine g_iload P231 d1_66 rfl ?_
        refine g_istore P231 d1_68 #[.val (.ref tx), .val (.int (iN p0)), .val (.ref xp), .val (.int iv), .val (.int sh), .val (.int by_), .val (.int kv), .val (.int (0 : Int32)), .val (.int (2 : Int32)), .val (.int (1 : Int32)), .val (.int (1 : Int32)), .val (.int (iN (p0 + 1))), .val (.int (iN (p0 + 1)))] rfl ?_
        refine g_iload P231 d1_70 rfl ?_
        refine g_ifNo P231 d1_72 (by decide) ?_
        refine g_aloadN P231 d1_75 rfl rfl ?_
        refine g_iload P231 d1_76 rfl ?_
        refine g_iload P231 d1_78 rfl ?_
        refine g_bipush (v := (127 : Int32)) P231 d1_80 (by rfl) ?_
        refine g_iand (v := (by_ &&& (127 : Int32))) P231 d1_82 rfl ?_
        refine g_iload P231 d1_83 rfl ?_
        refine g_iload P231 d1_85 rfl ?_
        refine g_iconst (v := (1 : Int32)) P231 d1_87 (by rfl) ?_
        refine g_icmpYes P231 d1_88 (by decide) 95 (by decide) (by decide) ?_
        refine g_iconst (v := (0 : Int32)) P231 d1_95 (by rfl) ?_
        refine g_static P231 [(.ref tx), (.int (iN (p0 + 1))), (.int (by_ &&& (127 : Int32))), (.int (1 : Int32)), (.int (0 : Int32))] (rest := []) (W := 0) d1_96 (hw _ (List.mem_of_getElem? (i := 78) rfl)) (hw _ (List.mem_of_getElem? (i := 79) rfl)) (hw _ (List.mem_of_getElem? (i := 4) rfl)) (hw _ (List.mem_of_getElem? (i := 80) rfl)) (by decide) (rm_putq l Z a0 hw _ n0 tx kt tc (p0 + 1) (by_ &&& (127 : Int32)) (0 : Int32) trivial AT lt hB (m127 _) (by omega) ge) pd_7 rfl rfl rfl rfl (by decide) (by decide) (by decide) (by decide) fun v232 T232 h232 P232 q232 => ?_
        obtain ⟨t0, q0, rfl, AT, lt, ha0, hb0, hlow, hhigh, hQ, hB, K'⟩ := q232
        have K := K.trans K' (fun x hx => Or.inl (by simp at hx; simp [hx]))
        have AX := AX.keep K' (ninS xt nin0)
        have HQ := (HQ.congr hlow).trans hQ
        have Zc : Zs t0 q0 32 := fun i h1 h2 => (hhigh i h1).trans (Zc i (by omega) h2)
        have LOW : ∀ i, i < p0 → t0[i]? = t[i]? := fun i hi => (hlow i (by omega)).trans (LOW i hi)
        have H34 := (hlow p0 (by omega)).trans H34
        refine g_istore P232 d1_99 #[.val (.ref tx), .val (.int (iN p0)), .val (.ref xp), .val (.int iv), .val (.int sh), .val (.int by_), .val (.int kv), .val (.int (0 : Int32)), .val (.int (2 : Int32)), .val (.int (1 : Int32)), .val (.int (1 : Int32)), .val (.int (iN q0)), .val (.int (iN (p0 + 1)))] rfl ?_
        refine g_iload P232 d1_101 rfl ?_
        refine g_iconst (v := (1 : Int32)) P232 d1_103 (by rfl) ?_
        refine g_icmpNo P232 d1_104 (by decide) ?_
        refine g_aloadN P232 d1_107 rfl rfl ?_
        refine g_iload P232 d1_108 rfl ?_
        refine g_iload P232 d1_110 rfl ?_
        refine g_bipush (v := (8 : Int32)) P232 d1_112 (by rfl) ?_
        refine g_iushr (v := (XT.ushr by_ (8 : Int32))) P232 d1_114 rfl ?_
        refine g_bipush (v := (127 : Int32)) P232 d1_115 (by rfl) ?_
        refine g_iand (v := ((XT.ushr by_ (8 : Int32)) &&& (127 : Int32))) P232 d1_117 rfl ?_
        refine g_iload P232 d1_118 rfl ?_
        refine g_iload P232 d1_120 rfl ?_
        refine g_iconst (v := (2 : Int32)) P232 d1_122 (by rfl) ?_
        refine g_icmpNo P232 d1_123 (by decide) ?_
        refine g_iconst (v := (1 : Int32)) P232 d1_126 (by rfl) ?_
        refine g_goto P232 d1_127 131 (by decide) (by decide) ?_
        refine g_static P232 [(.ref tx), (.int (iN q0)), (.int ((XT.ushr by_ (8 : Int32)) &&& (127 : Int32))), (.int (1 : Int32)), (.int (1 : Int32))] (rest := []) (W := 0) d1_131 (hw _ (List.mem_of_getElem? (i := 78) rfl)) (hw _ (List.mem_of_getElem? (i := 79) rfl)) (hw _ (List.mem_of_getElem? (i := 4) rfl)) (hw _ (List.mem_of_getElem? (i := 80) rfl)) (by decide) (rm_putq l Z a0 hw _ n0 tx kt t0 q0 ((XT.ushr by_ (8 : Int32)) &&& (127 : Int32)) (1 : Int32) trivial AT lt hB (m127 _) (by omega) ge) pd_7 rfl rfl rfl rfl (by decide) (by decide) (by decide) (by decide) fun v233 T233 h233 P233 q233 => ?_
        obtain ⟨t1, q1, rfl, AT, lt, ha1, hb1, hlow, hhigh, hQ, hB, K'⟩ := q233
        have K := K.trans K' (fun x hx => Or.inl (by simp at hx; simp [hx]))
        have AX := AX.keep K' (ninS xt nin0)
        have HQ := (HQ.congr hlow).trans hQ
        have Zc : Zs t1 q1 32 := fun i h1 h2 => (hhigh i h1).trans (Zc i (by omega) h2)
        have LOW : ∀ i, i < p0 → t1[i]? = t[i]? := fun i hi => (hlow i (by omega)).trans (LOW i hi)
        have H34 := (hlow p0 (by omega)).trans H34
        refine g_istore P233 d1_134 #[.val (.ref tx), .val (.int (iN p0)), .val (.ref xp), .val (.int iv), .val (.int sh), .val (.int by_), .val (.int kv), .val (.int (0 : Int32)), .val (.int (2 : Int32)), .val (.int (1 : Int32)), .val (.int (1 : Int32)), .val (.int (iN q1)), .val (.int (iN (p0 + 1)))] rfl ?_
        refine g_iload P233 d1_136 rfl ?_
        refine g_iconst (v := (2 : Int32)) P233 d1_138 (by rfl) ?_
        refine g_icmpYes P233 d1_139 (by decide) 161 (by decide) (by decide) ?_
        refine g_iload P233 d1_161 rfl ?_
        refine g_ifNo P233 d1_163 (by decide) ?_
        refine g_iload P233 d1_166 rfl ?_
        refine g_ifYes P233 d1_168 (by decide) 204 (by decide) (by decide) ?_
        refine g_aloadN P233 d1_204 rfl rfl ?_
        refine g_iloadN P233 d1_205 rfl ?_
        refine g_iload P233 d1_206 rfl ?_
        refine g_iload P233 d1_208 rfl ?_
        refine g_isub (v := ((iN q1) - (iN (p0 + 1)))) P233 d1_210 rfl ?_
        refine g_iastore (i := xi) P233 d1_211 AX IX (by rw [List.length_map]; omega) gx fun T234 h234 P234 W234 AX => ?_
        rw [map_set'] at AX
        have K := K.wr W234 (Or.inl (by simp))
        have AT := AT.other W234 tx_
        refine g_iload P234 d1_212 rfl ?_
        refine g_ifNo P234 d1_214 (by decide) ?_
        refine g_aloadN P234 d1_217 rfl rfl ?_
        refine g_iload P234 d1_218 rfl ?_
        refine g_bipush (v := (34 : Int32)) P234 d1_220 (by rfl) ?_
        refine g_bastoreB (i := q1) (w := 34) P234 d1_222 AT (ix_iN (by omega)) (by simp only [List.length_map, List.length_set]; omega) ge (by decide) fun T235 h235 P235 W235 AT => ?_
        rw [map_set'] at AT
        have K := K.wr W235 (Or.inl (by simp))
        have AX := AX.other W235 xt
        refine g_iload P235 d1_223 rfl ?_
        refine g_iconst (v := (1 : Int32)) P235 d1_225 (by rfl) ?_
        refine g_iadd (v := (iN (q1 + 1))) P235 d1_226 (iN_add _ 1) ?_
        refine g_istore P235 d1_227 #[.val (.ref tx), .val (.int (iN p0)), .val (.ref xp), .val (.int iv), .val (.int sh), .val (.int by_), .val (.int kv), .val (.int (0 : Int32)), .val (.int (2 : Int32)), .val (.int (1 : Int32)), .val (.int (1 : Int32)), .val (.int (iN (q1 + 1))), .val (.int (iN (p0 + 1)))] rfl ?_
        refine g_iload P235 d1_229 rfl ?_
        exact g_retI P235 d1_231 (by decide) (by decide) ⟨_, p0 + 1, q1, q1 + 1, rfl, AT, by rw [List.length_set]; exact lt, hB.set (by decide), AX, Or.inl ⟨by rw [List.getElem?_set_ne (by omega)]; exact H34, rfl, HQ.congr (fun i hi => by rw [List.getElem?_set_ne (by omega)]), by rw [List.getElem?_set_self (by omega)], rfl⟩, by omega, fun i hi => by rw [List.getElem?_set_ne (by omega)]; exact LOW i hi, (Zc.sub (by omega) (Nat.le_refl _)).set (by omega), K⟩
      · refine g_icmpYes P0 d1_36 (feq hl).2 43 (by decide) (by decide) ?_
        refine g_iconst (v := (0 : Int32)) P0 d1_43 (by rfl) ?_
        refine g_istore P0 d1_44 #[.val (.ref tx), .val (.int (iN p0)), .val (.ref xp), .val (.int iv), .val (.int sh), .val (.int by_), .val (.int kv), .val (.int (0 : Int32)), .val (.int (2 : Int32)), .val (.int (1 : Int32)), .val (.int (0 : Int32)), .unset, .unset] rfl ?_
        refine g_iloadN P0 d1_46 rfl ?_
        refine g_istore P0 d1_47 #[.val (.ref tx), .val (.int (iN p0)), .val (.ref xp), .val (.int iv), .val (.int sh), .val (.int by_), .val (.int kv), .val (.int (0 : Int32)), .val (.int (2 : Int32)), .val (.int (1 : Int32)), .val (.int (0 : Int32)), .val (.int (iN p0)), .unset] rfl ?_
        refine g_iload P0 d1_49 rfl ?_
        refine g_ifNo P0 d1_51 (by decide) ?_
        refine g_aloadN P0 d1_54 rfl rfl ?_
        refine g_iload P0 d1_55 rfl ?_
        refine g_bipush (v := (34 : Int32)) P0 d1_57 (by rfl) ?_
        refine g_bastoreB (i := p0) (w := 34) P0 d1_59 AT (ix_iN (by omega)) (by simp only [List.length_map, List.length_set]; omega) ge (by decide) fun T236 h236 P236 W236 AT => ?_
        rw [map_set'] at AT
        have K := K.wr W236 (Or.inl (by simp))
        have AX := AX.other W236 xt
        obtain ⟨tc, htc⟩ : ∃ tc, tc = t.set p0 34 := ⟨_, rfl⟩
        rw [← htc] at AT
        have lt : tc.length = 32 := by rw [htc, List.length_set]; exact lt
        have hB : AllB tc := by rw [htc]; exact hB.set (by decide)
        have Zc : Zs tc (p0 + 1) 32 := by rw [htc]; exact (hZ.sub (by omega) (Nat.le_refl _)).set (by omega)
        have LOW : ∀ i, i < p0 → tc[i]? = t[i]? := fun i hi => by rw [htc, List.getElem?_set_ne (by omega)]
        have H34 : tc[p0]? = some 34 := by rw [htc, List.getElem?_set_self (by omega)]
        have HQ : QSeg tc (p0 + 1) (p0 + 1) := QSeg.nil
        refine g_iload P236 d1_60 rfl ?_
        refine g_iconst (v := (1 : Int32)) P236 d1_62 (by rfl) ?_
        refine g_iadd (v := (iN (p0 + 1))) P236 d1_63 (iN_add _ 1) ?_
        refine g_istore P236 d1_64 #[.val (.ref tx), .val (.int (iN p0)), .val (.ref xp), .val (.int iv), .val (.int sh), .val (.int by_), .val (.int kv), .val (.int (0 : Int32)), .val (.int (2 : Int32)), .val (.int (1 : Int32)), .val (.int (0 : Int32)), .val (.int (iN (p0 + 1))), .unset] rfl ?_
        refine g_iload P236 d1_66 rfl ?_
        refine g_istore P236 d1_68 #[.val (.ref tx), .val (.int (iN p0)), .val (.ref xp), .val (.int iv), .val (.int sh), .val (.int by_), .val (.int kv), .val (.int (0 : Int32)), .val (.int (2 : Int32)), .val (.int (1 : Int32)), .val (.int (0 : Int32)), .val (.int (iN (p0 + 1))), .val (.int (iN (p0 + 1)))] rfl ?_
        refine g_iload P236 d1_70 rfl ?_
        refine g_ifNo P236 d1_72 (by decide) ?_
        refine g_aloadN P236 d1_75 rfl rfl ?_
        refine g_iload P236 d1_76 rfl ?_
        refine g_iload P236 d1_78 rfl ?_
        refine g_bipush (v := (127 : Int32)) P236 d1_80 (by rfl) ?_
        refine g_iand (v := (by_ &&& (127 : Int32))) P236 d1_82 rfl ?_
        refine g_iload P236 d1_83 rfl ?_
        refine g_iload P236 d1_85 rfl ?_
        refine g_iconst (v := (1 : Int32)) P236 d1_87 (by rfl) ?_
        refine g_icmpYes P236 d1_88 (by decide) 95 (by decide) (by decide) ?_
        refine g_iconst (v := (0 : Int32)) P236 d1_95 (by rfl) ?_
        refine g_static P236 [(.ref tx), (.int (iN (p0 + 1))), (.int (by_ &&& (127 : Int32))), (.int (1 : Int32)), (.int (0 : Int32))] (rest := []) (W := 0) d1_96 (hw _ (List.mem_of_getElem? (i := 78) rfl)) (hw _ (List.mem_of_getElem? (i := 79) rfl)) (hw _ (List.mem_of_getElem? (i := 4) rfl)) (hw _ (List.mem_of_getElem? (i := 80) rfl)) (by decide) (rm_putq l Z a0 hw _ n0 tx kt tc (p0 + 1) (by_ &&& (127 : Int32)) (0 : Int32) trivial AT lt hB (m127 _) (by omega) ge) pd_7 rfl rfl rfl rfl (by decide) (by decide) (by decide) (by decide) fun v237 T237 h237 P237 q237 => ?_
        obtain ⟨t0, q0, rfl, AT, lt, ha0, hb0, hlow, hhigh, hQ, hB, K'⟩ := q237
        have K := K.trans K' (fun x hx => Or.inl (by simp at hx; simp [hx]))
        have AX := AX.keep K' (ninS xt nin0)
        have HQ := (HQ.congr hlow).trans hQ
        have Zc : Zs t0 q0 32 := fun i h1 h2 => (hhigh i h1).trans (Zc i (by omega) h2)
        have LOW : ∀ i, i < p0 → t0[i]? = t[i]? := fun i hi => (hlow i (by omega)).trans (LOW i hi)
        have H34 := (hlow p0 (by omega)).trans H34
        refine g_istore P237 d1_99 #[.val (.ref tx), .val (.int (iN p0)), .val (.ref xp), .val (.int iv), .val (.int sh), .val (.int by_), .val (.int kv), .val (.int (0 : Int32)), .val (.int (2 : Int32)), .val (.int (1 : Int32)), .val (.int (0 : Int32)), .val (.int (iN q0)), .val (.int (iN (p0 + 1)))] rfl ?_
        refine g_iload P237 d1_101 rfl ?_
        refine g_iconst (v := (1 : Int32)) P237 d1_103 (by rfl) ?_
        refine g_icmpNo P237 d1_104 (by decide) ?_
        refine g_aloadN P237 d1_107 rfl rfl ?_
        refine g_iload P237 d1_108 rfl ?_
        refine g_iload P237 d1_110 rfl ?_
        refine g_bipush (v := (8 : Int32)) P237 d1_112 (by rfl) ?_
        refine g_iushr (v := (XT.ushr by_ (8 : Int32))) P237 d1_114 rfl ?_
        refine g_bipush (v := (127 : Int32)) P237 d1_115 (by rfl) ?_
        refine g_iand (v := ((XT.ushr by_ (8 : Int32)) &&& (127 : Int32))) P237 d1_117 rfl ?_
        refine g_iload P237 d1_118 rfl ?_
        refine g_iload P237 d1_120 rfl ?_
        refine g_iconst (v := (2 : Int32)) P237 d1_122 (by rfl) ?_
        refine g_icmpNo P237 d1_123 (by decide) ?_
        refine g_iconst (v := (1 : Int32)) P237 d1_126 (by rfl) ?_
        refine g_goto P237 d1_127 131 (by decide) (by decide) ?_
        refine g_static P237 [(.ref tx), (.int (iN q0)), (.int ((XT.ushr by_ (8 : Int32)) &&& (127 : Int32))), (.int (1 : Int32)), (.int (1 : Int32))] (rest := []) (W := 0) d1_131 (hw _ (List.mem_of_getElem? (i := 78) rfl)) (hw _ (List.mem_of_getElem? (i := 79) rfl)) (hw _ (List.mem_of_getElem? (i := 4) rfl)) (hw _ (List.mem_of_getElem? (i := 80) rfl)) (by decide) (rm_putq l Z a0 hw _ n0 tx kt t0 q0 ((XT.ushr by_ (8 : Int32)) &&& (127 : Int32)) (1 : Int32) trivial AT lt hB (m127 _) (by omega) ge) pd_7 rfl rfl rfl rfl (by decide) (by decide) (by decide) (by decide) fun v238 T238 h238 P238 q238 => ?_
        obtain ⟨t1, q1, rfl, AT, lt, ha1, hb1, hlow, hhigh, hQ, hB, K'⟩ := q238
        have K := K.trans K' (fun x hx => Or.inl (by simp at hx; simp [hx]))
        have AX := AX.keep K' (ninS xt nin0)
        have HQ := (HQ.congr hlow).trans hQ
        have Zc : Zs t1 q1 32 := fun i h1 h2 => (hhigh i h1).trans (Zc i (by omega) h2)
        have LOW : ∀ i, i < p0 → t1[i]? = t[i]? := fun i hi => (hlow i (by omega)).trans (LOW i hi)
        have H34 := (hlow p0 (by omega)).trans H34
        refine g_istore P238 d1_134 #[.val (.ref tx), .val (.int (iN p0)), .val (.ref xp), .val (.int iv), .val (.int sh), .val (.int by_), .val (.int kv), .val (.int (0 : Int32)), .val (.int (2 : Int32)), .val (.int (1 : Int32)), .val (.int (0 : Int32)), .val (.int (iN q1)), .val (.int (iN (p0 + 1)))] rfl ?_
        refine g_iload P238 d1_136 rfl ?_
        refine g_iconst (v := (2 : Int32)) P238 d1_138 (by rfl) ?_
        refine g_icmpYes P238 d1_139 (by decide) 161 (by decide) (by decide) ?_
        refine g_iload P238 d1_161 rfl ?_
        refine g_ifYes P238 d1_163 (by decide) 204 (by decide) (by decide) ?_
        refine g_aloadN P238 d1_204 rfl rfl ?_
        refine g_iloadN P238 d1_205 rfl ?_
        refine g_iload P238 d1_206 rfl ?_
        refine g_iload P238 d1_208 rfl ?_
        refine g_isub (v := ((iN q1) - (iN (p0 + 1)))) P238 d1_210 rfl ?_
        refine g_iastore (i := xi) P238 d1_211 AX IX (by rw [List.length_map]; omega) gx fun T239 h239 P239 W239 AX => ?_
        rw [map_set'] at AX
        have K := K.wr W239 (Or.inl (by simp))
        have AT := AT.other W239 tx_
        refine g_iload P239 d1_212 rfl ?_
        refine g_ifNo P239 d1_214 (by decide) ?_
        refine g_aloadN P239 d1_217 rfl rfl ?_
        refine g_iload P239 d1_218 rfl ?_
        refine g_bipush (v := (34 : Int32)) P239 d1_220 (by rfl) ?_
        refine g_bastoreB (i := q1) (w := 34) P239 d1_222 AT (ix_iN (by omega)) (by simp only [List.length_map, List.length_set]; omega) ge (by decide) fun T240 h240 P240 W240 AT => ?_
        rw [map_set'] at AT
        have K := K.wr W240 (Or.inl (by simp))
        have AX := AX.other W240 xt
        refine g_iload P240 d1_223 rfl ?_
        refine g_iconst (v := (1 : Int32)) P240 d1_225 (by rfl) ?_
        refine g_iadd (v := (iN (q1 + 1))) P240 d1_226 (iN_add _ 1) ?_
        refine g_istore P240 d1_227 #[.val (.ref tx), .val (.int (iN p0)), .val (.ref xp), .val (.int iv), .val (.int sh), .val (.int by_), .val (.int kv), .val (.int (0 : Int32)), .val (.int (2 : Int32)), .val (.int (1 : Int32)), .val (.int (0 : Int32)), .val (.int (iN (q1 + 1))), .val (.int (iN (p0 + 1)))] rfl ?_
        refine g_iload P240 d1_229 rfl ?_
        exact g_retI P240 d1_231 (by decide) (by decide) ⟨_, p0 + 1, q1, q1 + 1, rfl, AT, by rw [List.length_set]; exact lt, hB.set (by decide), AX, Or.inl ⟨by rw [List.getElem?_set_ne (by omega)]; exact H34, rfl, HQ.congr (fun i hi => by rw [List.getElem?_set_ne (by omega)]), by rw [List.getElem?_set_self (by omega)], rfl⟩, by omega, fun i hi => by rw [List.getElem?_set_ne (by omega)]; exact LOW i hi, (Zc.sub (by omega) (Nat.le_refl _)).set (by omega), K⟩
  · refine g_istore P0 d1_10 #[.val (.ref tx), .val (.int (iN p0)), .val (.ref xp), .val (.int iv), .val (.int sh), .val (.int by_), .val (.int kv), .val (.int (0 : Int32)), .val (.int (3 : Int32)), .unset, .unset, .unset, .unset] rfl ?_
    refine g_iload P0 d1_12 rfl ?_
    refine g_bipush (v := (8 : Int32)) P0 d1_14 (by rfl) ?_
    refine g_iloadN P0 d1_16 rfl ?_
    refine g_iadd (v := ((8 : Int32) + iv)) P0 d1_17 rfl ?_
    refine g_iushr (v := (XT.ushr sh ((8 : Int32) + iv))) P0 d1_18 rfl ?_
    refine g_iconst (v := (1 : Int32)) P0 d1_19 (by rfl) ?_
    refine g_iand (v := ((XT.ushr sh ((8 : Int32) + iv)) &&& (1 : Int32))) P0 d1_20 rfl ?_
    by_cases hqu : ((XT.ushr sh ((8 : Int32) + iv)) &&& (1 : Int32)) = (0 : Int32)
    · refine g_ifYes P0 d1_21 ((if0 _ _).trans (teq hqu).1) 28 (by decide) (by decide) ?_
      refine g_iconst (v := (0 : Int32)) P0 d1_28 (by rfl) ?_
      refine g_istore P0 d1_29 #[.val (.ref tx), .val (.int (iN p0)), .val (.ref xp), .val (.int iv), .val (.int sh), .val (.int by_), .val (.int kv), .val (.int (0 : Int32)), .val (.int (3 : Int32)), .val (.int (0 : Int32)), .unset, .unset, .unset] rfl ?_
      refine g_iloadN P0 d1_31 rfl ?_
      refine g_iload P0 d1_32 rfl ?_
      refine g_iconst (v := (1 : Int32)) P0 d1_34 (by rfl) ?_
      refine g_isub (v := (kv - (1 : Int32))) P0 d1_35 rfl ?_
      by_cases hl : iv = (kv - (1 : Int32))
      · refine g_icmpNo P0 d1_36 (teq hl).2 ?_
        refine g_iconst (v := (1 : Int32)) P0 d1_39 (by rfl) ?_
        refine g_goto P0 d1_40 44 (by decide) (by decide) ?_
        refine g_istore P0 d1_44 #[.val (.ref tx), .val (.int (iN p0)), .val (.ref xp), .val (.int iv), .val (.int sh), .val (.int by_), .val (.int kv), .val (.int (0 : Int32)), .val (.int (3 : Int32)), .val (.int (0 : Int32)), .val (.int (1 : Int32)), .unset, .unset] rfl ?_
        refine g_iloadN P0 d1_46 rfl ?_
        refine g_istore P0 d1_47 #[.val (.ref tx), .val (.int (iN p0)), .val (.ref xp), .val (.int iv), .val (.int sh), .val (.int by_), .val (.int kv), .val (.int (0 : Int32)), .val (.int (3 : Int32)), .val (.int (0 : Int32)), .val (.int (1 : Int32)), .val (.int (iN p0)), .unset] rfl ?_
        refine g_iload P0 d1_49 rfl ?_
        refine g_ifYes P0 d1_51 (by decide) 66 (by decide) (by decide) ?_
        refine g_iload P0 d1_66 rfl ?_
        refine g_istore P0 d1_68 #[.val (.ref tx), .val (.int (iN p0)), .val (.ref xp), .val (.int iv), .val (.int sh), .val (.int by_), .val (.int kv), .val (.int (0 : Int32)), .val (.int (3 : Int32)), .val (.int (0 : Int32)), .val (.int (1 : Int32)), .val (.int (iN p0)), .val (.int (iN p0))] rfl ?_
        refine g_iload P0 d1_70 rfl ?_
        refine g_ifNo P0 d1_72 (by decide) ?_
        refine g_aloadN P0 d1_75 rfl rfl ?_
        refine g_iload P0 d1_76 rfl ?_
        refine g_iload P0 d1_78 rfl ?_
        refine g_bipush (v := (127 : Int32)) P0 d1_80 (by rfl) ?_
        refine g_iand (v := (by_ &&& (127 : Int32))) P0 d1_82 rfl ?_
        refine g_iload P0 d1_83 rfl ?_
        refine g_iload P0 d1_85 rfl ?_
        refine g_iconst (v := (1 : Int32)) P0 d1_87 (by rfl) ?_
        refine g_icmpYes P0 d1_88 (by decide) 95 (by decide) (by decide) ?_
        refine g_iconst (v := (0 : Int32)) P0 d1_95 (by rfl) ?_
        refine g_static P0 [(.ref tx), (.int (iN p0)), (.int (by_ &&& (127 : Int32))), (.int (0 : Int32)), (.int (0 : Int32))] (rest := []) (W := 0) d1_96 (hw _ (List.mem_of_getElem? (i := 78) rfl)) (hw _ (List.mem_of_getElem? (i := 79) rfl)) (hw _ (List.mem_of_getElem? (i := 4) rfl)) (hw _ (List.mem_of_getElem? (i := 80) rfl)) (by decide) (rm_putu0 l Z a0 hw _ n0 tx kt t p0 (by_ &&& (127 : Int32)) trivial AT (by first | omega | (simp only [List.length_set]; omega)) hB (m127 _) (by omega) ge) pd_7 rfl rfl rfl rfl (by decide) (by decide) (by decide) (by decide) fun v241 T241 h241 P241 q241 => ?_
        obtain ⟨d0, rfl, AT, x0, y0, z0, w0, v0, K'⟩ := q241
        have K := K.trans K' (fun x hx => Or.inl (by simp at hx; simp [hx]))
        have AX := AX.keep K' (ninS xt nin0)
        have hB0 := hB.set (i := p0) v0
        refine g_istore P241 d1_99 #[.val (.ref tx), .val (.int (iN p0)), .val (.ref xp), .val (.int iv), .val (.int sh), .val (.int by_), .val (.int kv), .val (.int (0 : Int32)), .val (.int (3 : Int32)), .val (.int (0 : Int32)), .val (.int (1 : Int32)), .val (.int (iN (p0 + 1))), .val (.int (iN p0))] rfl ?_
        refine g_iload P241 d1_101 rfl ?_
        refine g_iconst (v := (1 : Int32)) P241 d1_103 (by rfl) ?_
        refine g_icmpNo P241 d1_104 (by decide) ?_
        refine g_aloadN P241 d1_107 rfl rfl ?_
        refine g_iload P241 d1_108 rfl ?_
        refine g_iload P241 d1_110 rfl ?_
        refine g_bipush (v := (8 : Int32)) P241 d1_112 (by rfl) ?_
        refine g_iushr (v := (XT.ushr by_ (8 : Int32))) P241 d1_114 rfl ?_
        refine g_bipush (v := (127 : Int32)) P241 d1_115 (by rfl) ?_
        refine g_iand (v := ((XT.ushr by_ (8 : Int32)) &&& (127 : Int32))) P241 d1_117 rfl ?_
        refine g_iload P241 d1_118 rfl ?_
        refine g_iload P241 d1_120 rfl ?_
        refine g_iconst (v := (2 : Int32)) P241 d1_122 (by rfl) ?_
        refine g_icmpYes P241 d1_123 (by decide) 130 (by decide) (by decide) ?_
        refine g_iconst (v := (0 : Int32)) P241 d1_130 (by rfl) ?_
        refine g_static P241 [(.ref tx), (.int (iN (p0 + 1))), (.int ((XT.ushr by_ (8 : Int32)) &&& (127 : Int32))), (.int (0 : Int32)), (.int (0 : Int32))] (rest := []) (W := 0) d1_131 (hw _ (List.mem_of_getElem? (i := 78) rfl)) (hw _ (List.mem_of_getElem? (i := 79) rfl)) (hw _ (List.mem_of_getElem? (i := 4) rfl)) (hw _ (List.mem_of_getElem? (i := 80) rfl)) (by decide) (rm_putu0 l Z a0 hw _ n0 tx kt (t.set p0 d0) (p0 + 1) ((XT.ushr by_ (8 : Int32)) &&& (127 : Int32)) trivial AT (by first | omega | (simp only [List.length_set]; omega)) hB0 (m127 _) (by omega) ge) pd_7 rfl rfl rfl rfl (by decide) (by decide) (by decide) (by decide) fun v242 T242 h242 P242 q242 => ?_
        obtain ⟨d1, rfl, AT, x1, y1, z1, w1, v1, K'⟩ := q242
        have K := K.trans K' (fun x hx => Or.inl (by simp at hx; simp [hx]))
        have AX := AX.keep K' (ninS xt nin0)
        have hB1 := hB0.set (i := (p0 + 1)) v1
        refine g_istore P242 d1_134 #[.val (.ref tx), .val (.int (iN p0)), .val (.ref xp), .val (.int iv), .val (.int sh), .val (.int by_), .val (.int kv), .val (.int (0 : Int32)), .val (.int (3 : Int32)), .val (.int (0 : Int32)), .val (.int (1 : Int32)), .val (.int (iN (p0 + 1 + 1))), .val (.int (iN p0))] rfl ?_
        refine g_iload P242 d1_136 rfl ?_
        refine g_iconst (v := (2 : Int32)) P242 d1_138 (by rfl) ?_
        refine g_icmpNo P242 d1_139 (by decide) ?_
        refine g_aloadN P242 d1_142 rfl rfl ?_
        refine g_iload P242 d1_143 rfl ?_
        refine g_iload P242 d1_145 rfl ?_
        refine g_bipush (v := (16 : Int32)) P242 d1_147 (by rfl) ?_
        refine g_iushr (v := (XT.ushr by_ (16 : Int32))) P242 d1_149 rfl ?_
        refine g_bipush (v := (127 : Int32)) P242 d1_150 (by rfl) ?_
        refine g_iand (v := ((XT.ushr by_ (16 : Int32)) &&& (127 : Int32))) P242 d1_152 rfl ?_
        refine g_iload P242 d1_153 rfl ?_
        refine g_iconst (v := (1 : Int32)) P242 d1_155 (by rfl) ?_
        refine g_static P242 [(.ref tx), (.int (iN (p0 + 1 + 1))), (.int ((XT.ushr by_ (16 : Int32)) &&& (127 : Int32))), (.int (0 : Int32)), (.int (1 : Int32))] (rest := []) (W := 0) d1_156 (hw _ (List.mem_of_getElem? (i := 78) rfl)) (hw _ (List.mem_of_getElem? (i := 79) rfl)) (hw _ (List.mem_of_getElem? (i := 4) rfl)) (hw _ (List.mem_of_getElem? (i := 80) rfl)) (by decide) (rm_putu1 l Z a0 hw _ n0 tx kt ((t.set p0 d0).set (p0 + 1) d1) (p0 + 2) ((XT.ushr by_ (16 : Int32)) &&& (127 : Int32)) trivial AT (by first | omega | (simp only [List.length_set]; omega)) hB1 (m127 _) (by omega) ge) pd_7 rfl rfl rfl rfl (by decide) (by decide) (by decide) (by decide) fun v243 T243 h243 P243 q243 => ?_
        obtain ⟨d2, rfl, AT, x2, y2, z2, w2, v2, K'⟩ := q243
        have K := K.trans K' (fun x hx => Or.inl (by simp at hx; simp [hx]))
        have AX := AX.keep K' (ninS xt nin0)
        have hB2 := hB1.set (i := (p0 + 2)) v2
        refine g_istore P243 d1_159 #[.val (.ref tx), .val (.int (iN p0)), .val (.ref xp), .val (.int iv), .val (.int sh), .val (.int by_), .val (.int kv), .val (.int (0 : Int32)), .val (.int (3 : Int32)), .val (.int (0 : Int32)), .val (.int (1 : Int32)), .val (.int (iN (p0 + 2 + 1))), .val (.int (iN p0))] rfl ?_
        refine g_iload P243 d1_161 rfl ?_
        refine g_ifNo P243 d1_163 (by decide) ?_
        refine g_iload P243 d1_166 rfl ?_
        refine g_ifYes P243 d1_168 (by decide) 204 (by decide) (by decide) ?_
        refine g_aloadN P243 d1_204 rfl rfl ?_
        refine g_iloadN P243 d1_205 rfl ?_
        refine g_iload P243 d1_206 rfl ?_
        refine g_iload P243 d1_208 rfl ?_
        refine g_isub (v := ((iN (p0 + 2 + 1)) - (iN p0))) P243 d1_210 rfl ?_
        have Zc : Zs (((t.set p0 d0).set (p0 + 1) d1).set (p0 + 2) d2) (p0 + 3) 32 := ((((hZ.sub (by omega) (Nat.le_refl _)).set (i := p0) (v := d0) (by omega)).set (i := (p0 + 1)) (v := d1) (by omega)).set (i := (p0 + 2)) (v := d2) (by omega))
        have hseg : PSeg (((t.set p0 d0).set (p0 + 1) d1).set (p0 + 2) d2) p0 (p0 + 3) := (pseg_put (by rw [List.getElem?_set_ne (by omega), List.getElem?_set_ne (by omega), List.getElem?_set_self (by first | omega | (simp only [List.length_set]; omega))]) x0 y0 z0 (fun _ => ⟨by omega, d1, (by rw [List.getElem?_set_ne (by omega), List.getElem?_set_self (by first | omega | (simp only [List.length_set]; omega))]), y1⟩) (pseg_put (by rw [List.getElem?_set_ne (by omega), List.getElem?_set_self (by first | omega | (simp only [List.length_set]; omega))]) x1 y1 z1 (fun _ => ⟨by omega, d2, (by rw [List.getElem?_set_self (by first | omega | (simp only [List.length_set]; omega))]), y2⟩) (pseg_put (by rw [List.getElem?_set_self (by first | omega | (simp only [List.length_set]; omega))]) x2 y2 z2 (fun q => absurd q (w2 rfl)) PSeg.nil)))
        have ltn : (((t.set p0 d0).set (p0 + 1) d1).set (p0 + 2) d2).length = 32 := by first | omega | (simp only [List.length_set]; omega)
        refine g_iastore (i := xi) P243 d1_211 AX IX (by rw [List.length_map]; omega) gx fun T244 h244 P244 W244 AX => ?_
        rw [map_set'] at AX
        have K := K.wr W244 (Or.inl (by simp))
        have AT := AT.other W244 tx_
        refine g_iload P244 d1_212 rfl ?_
        refine g_ifYes P244 d1_214 (by decide) 229 (by decide) (by decide) ?_
        refine g_iload P244 d1_229 rfl ?_
        exact g_retI P244 d1_231 (by decide) (by decide) ⟨_, p0, (p0 + 3), (p0 + 3), rfl, AT, ltn, hB2, AX, Or.inr ⟨rfl, hseg, rfl⟩, by omega, fun i hi => by rw [List.getElem?_set_ne (by omega), List.getElem?_set_ne (by omega), List.getElem?_set_ne (by omega)], Zc, K⟩
      · refine g_icmpYes P0 d1_36 (feq hl).2 43 (by decide) (by decide) ?_
        refine g_iconst (v := (0 : Int32)) P0 d1_43 (by rfl) ?_
        refine g_istore P0 d1_44 #[.val (.ref tx), .val (.int (iN p0)), .val (.ref xp), .val (.int iv), .val (.int sh), .val (.int by_), .val (.int kv), .val (.int (0 : Int32)), .val (.int (3 : Int32)), .val (.int (0 : Int32)), .val (.int (0 : Int32)), .unset, .unset] rfl ?_
        refine g_iloadN P0 d1_46 rfl ?_
        refine g_istore P0 d1_47 #[.val (.ref tx), .val (.int (iN p0)), .val (.ref xp), .val (.int iv), .val (.int sh), .val (.int by_), .val (.int kv), .val (.int (0 : Int32)), .val (.int (3 : Int32)), .val (.int (0 : Int32)), .val (.int (0 : Int32)), .val (.int (iN p0)), .unset] rfl ?_
        refine g_iload P0 d1_49 rfl ?_
        refine g_ifYes P0 d1_51 (by decide) 66 (by decide) (by decide) ?_
        refine g_iload P0 d1_66 rfl ?_
        refine g_istore P0 d1_68 #[.val (.ref tx), .val (.int (iN p0)), .val (.ref xp), .val (.int iv), .val (.int sh), .val (.int by_), .val (.int kv), .val (.int (0 : Int32)), .val (.int (3 : Int32)), .val (.int (0 : Int32)), .val (.int (0 : Int32)), .val (.int (iN p0)), .val (.int (iN p0))] rfl ?_
        refine g_iload P0 d1_70 rfl ?_
        refine g_ifNo P0 d1_72 (by decide) ?_
        refine g_aloadN P0 d1_75 rfl rfl ?_
        refine g_iload P0 d1_76 rfl ?_
        refine g_iload P0 d1_78 rfl ?_
        refine g_bipush (v := (127 : Int32)) P0 d1_80 (by rfl) ?_
        refine g_iand (v := (by_ &&& (127 : Int32))) P0 d1_82 rfl ?_
        refine g_iload P0 d1_83 rfl ?_
        refine g_iload P0 d1_85 rfl ?_
        refine g_iconst (v := (1 : Int32)) P0 d1_87 (by rfl) ?_
        refine g_icmpYes P0 d1_88 (by decide) 95 (by decide) (by decide) ?_
        refine g_iconst (v := (0 : Int32)) P0 d1_95 (by rfl) ?_
        refine g_static P0 [(.ref tx), (.int (iN p0)), (.int (by_ &&& (127 : Int32))), (.int (0 : Int32)), (.int (0 : Int32))] (rest := []) (W := 0) d1_96 (hw _ (List.mem_of_getElem? (i := 78) rfl)) (hw _ (List.mem_of_getElem? (i := 79) rfl)) (hw _ (List.mem_of_getElem? (i := 4) rfl)) (hw _ (List.mem_of_getElem? (i := 80) rfl)) (by decide) (rm_putu0 l Z a0 hw _ n0 tx kt t p0 (by_ &&& (127 : Int32)) trivial AT (by first | omega | (simp only [List.length_set]; omega)) hB (m127 _) (by omega) ge) pd_7 rfl rfl rfl rfl (by decide) (by decide) (by decide) (by decide) fun v245 T245 h245 P245 q245 => ?_
        obtain ⟨d0, rfl, AT, x0, y0, z0, w0, v0, K'⟩ := q245
        have K := K.trans K' (fun x hx => Or.inl (by simp at hx; simp [hx]))
        have AX := AX.keep K' (ninS xt nin0)
        have hB0 := hB.set (i := p0) v0
        refine g_istore P245 d1_99 #[.val (.ref tx), .val (.int (iN p0)), .val (.ref xp), .val (.int iv), .val (.int sh), .val (.int by_), .val (.int kv), .val (.int (0 : Int32)), .val (.int (3 : Int32)), .val (.int (0 : Int32)), .val (.int (0 : Int32)), .val (.int (iN (p0 + 1))), .val (.int (iN p0))] rfl ?_
        refine g_iload P245 d1_101 rfl ?_
        refine g_iconst (v := (1 : Int32)) P245 d1_103 (by rfl) ?_
        refine g_icmpNo P245 d1_104 (by decide) ?_
        refine g_aloadN P245 d1_107 rfl rfl ?_
        refine g_iload P245 d1_108 rfl ?_
        refine g_iload P245 d1_110 rfl ?_
        refine g_bipush (v := (8 : Int32)) P245 d1_112 (by rfl) ?_
        refine g_iushr (v := (XT.ushr by_ (8 : Int32))) P245 d1_114 rfl ?_
        refine g_bipush (v := (127 : Int32)) P245 d1_115 (by rfl) ?_
        refine g_iand (v := ((XT.ushr by_ (8 : Int32)) &&& (127 : Int32))) P245 d1_117 rfl ?_
        refine g_iload P245 d1_118 rfl ?_
        refine g_iload P245 d1_120 rfl ?_
        refine g_iconst (v := (2 : Int32)) P245 d1_122 (by rfl) ?_
        refine g_icmpYes P245 d1_123 (by decide) 130 (by decide) (by decide) ?_
        refine g_iconst (v := (0 : Int32)) P245 d1_130 (by rfl) ?_
        refine g_static P245 [(.ref tx), (.int (iN (p0 + 1))), (.int ((XT.ushr by_ (8 : Int32)) &&& (127 : Int32))), (.int (0 : Int32)), (.int (0 : Int32))] (rest := []) (W := 0) d1_131 (hw _ (List.mem_of_getElem? (i := 78) rfl)) (hw _ (List.mem_of_getElem? (i := 79) rfl)) (hw _ (List.mem_of_getElem? (i := 4) rfl)) (hw _ (List.mem_of_getElem? (i := 80) rfl)) (by decide) (rm_putu0 l Z a0 hw _ n0 tx kt (t.set p0 d0) (p0 + 1) ((XT.ushr by_ (8 : Int32)) &&& (127 : Int32)) trivial AT (by first | omega | (simp only [List.length_set]; omega)) hB0 (m127 _) (by omega) ge) pd_7 rfl rfl rfl rfl (by decide) (by decide) (by decide) (by decide) fun v246 T246 h246 P246 q246 => ?_
        obtain ⟨d1, rfl, AT, x1, y1, z1, w1, v1, K'⟩ := q246
        have K := K.trans K' (fun x hx => Or.inl (by simp at hx; simp [hx]))
        have AX := AX.keep K' (ninS xt nin0)
        have hB1 := hB0.set (i := (p0 + 1)) v1
        refine g_istore P246 d1_134 #[.val (.ref tx), .val (.int (iN p0)), .val (.ref xp), .val (.int iv), .val (.int sh), .val (.int by_), .val (.int kv), .val (.int (0 : Int32)), .val (.int (3 : Int32)), .val (.int (0 : Int32)), .val (.int (0 : Int32)), .val (.int (iN (p0 + 1 + 1))), .val (.int (iN p0))] rfl ?_
        refine g_iload P246 d1_136 rfl ?_
        refine g_iconst (v := (2 : Int32)) P246 d1_138 (by rfl) ?_
        refine g_icmpNo P246 d1_139 (by decide) ?_
        refine g_aloadN P246 d1_142 rfl rfl ?_
        refine g_iload P246 d1_143 rfl ?_
        refine g_iload P246 d1_145 rfl ?_
        refine g_bipush (v := (16 : Int32)) P246 d1_147 (by rfl) ?_
        refine g_iushr (v := (XT.ushr by_ (16 : Int32))) P246 d1_149 rfl ?_
        refine g_bipush (v := (127 : Int32)) P246 d1_150 (by rfl) ?_
        refine g_iand (v := ((XT.ushr by_ (16 : Int32)) &&& (127 : Int32))) P246 d1_152 rfl ?_
        refine g_iload P246 d1_153 rfl ?_
        refine g_iconst (v := (1 : Int32)) P246 d1_155 (by rfl) ?_
        refine g_static P246 [(.ref tx), (.int (iN (p0 + 1 + 1))), (.int ((XT.ushr by_ (16 : Int32)) &&& (127 : Int32))), (.int (0 : Int32)), (.int (1 : Int32))] (rest := []) (W := 0) d1_156 (hw _ (List.mem_of_getElem? (i := 78) rfl)) (hw _ (List.mem_of_getElem? (i := 79) rfl)) (hw _ (List.mem_of_getElem? (i := 4) rfl)) (hw _ (List.mem_of_getElem? (i := 80) rfl)) (by decide) (rm_putu1 l Z a0 hw _ n0 tx kt ((t.set p0 d0).set (p0 + 1) d1) (p0 + 2) ((XT.ushr by_ (16 : Int32)) &&& (127 : Int32)) trivial AT (by first | omega | (simp only [List.length_set]; omega)) hB1 (m127 _) (by omega) ge) pd_7 rfl rfl rfl rfl (by decide) (by decide) (by decide) (by decide) fun v247 T247 h247 P247 q247 => ?_
        obtain ⟨d2, rfl, AT, x2, y2, z2, w2, v2, K'⟩ := q247
        have K := K.trans K' (fun x hx => Or.inl (by simp at hx; simp [hx]))
        have AX := AX.keep K' (ninS xt nin0)
        have hB2 := hB1.set (i := (p0 + 2)) v2
        refine g_istore P247 d1_159 #[.val (.ref tx), .val (.int (iN p0)), .val (.ref xp), .val (.int iv), .val (.int sh), .val (.int by_), .val (.int kv), .val (.int (0 : Int32)), .val (.int (3 : Int32)), .val (.int (0 : Int32)), .val (.int (0 : Int32)), .val (.int (iN (p0 + 2 + 1))), .val (.int (iN p0))] rfl ?_
        refine g_iload P247 d1_161 rfl ?_
        refine g_ifYes P247 d1_163 (by decide) 204 (by decide) (by decide) ?_
        refine g_aloadN P247 d1_204 rfl rfl ?_
        refine g_iloadN P247 d1_205 rfl ?_
        refine g_iload P247 d1_206 rfl ?_
        refine g_iload P247 d1_208 rfl ?_
        refine g_isub (v := ((iN (p0 + 2 + 1)) - (iN p0))) P247 d1_210 rfl ?_
        have Zc : Zs (((t.set p0 d0).set (p0 + 1) d1).set (p0 + 2) d2) (p0 + 3) 32 := ((((hZ.sub (by omega) (Nat.le_refl _)).set (i := p0) (v := d0) (by omega)).set (i := (p0 + 1)) (v := d1) (by omega)).set (i := (p0 + 2)) (v := d2) (by omega))
        have hseg : PSeg (((t.set p0 d0).set (p0 + 1) d1).set (p0 + 2) d2) p0 (p0 + 3) := (pseg_put (by rw [List.getElem?_set_ne (by omega), List.getElem?_set_ne (by omega), List.getElem?_set_self (by first | omega | (simp only [List.length_set]; omega))]) x0 y0 z0 (fun _ => ⟨by omega, d1, (by rw [List.getElem?_set_ne (by omega), List.getElem?_set_self (by first | omega | (simp only [List.length_set]; omega))]), y1⟩) (pseg_put (by rw [List.getElem?_set_ne (by omega), List.getElem?_set_self (by first | omega | (simp only [List.length_set]; omega))]) x1 y1 z1 (fun _ => ⟨by omega, d2, (by rw [List.getElem?_set_self (by first | omega | (simp only [List.length_set]; omega))]), y2⟩) (pseg_put (by rw [List.getElem?_set_self (by first | omega | (simp only [List.length_set]; omega))]) x2 y2 z2 (fun q => absurd q (w2 rfl)) PSeg.nil)))
        have ltn : (((t.set p0 d0).set (p0 + 1) d1).set (p0 + 2) d2).length = 32 := by first | omega | (simp only [List.length_set]; omega)
        refine g_iastore (i := xi) P247 d1_211 AX IX (by rw [List.length_map]; omega) gx fun T248 h248 P248 W248 AX => ?_
        rw [map_set'] at AX
        have K := K.wr W248 (Or.inl (by simp))
        have AT := AT.other W248 tx_
        refine g_iload P248 d1_212 rfl ?_
        refine g_ifYes P248 d1_214 (by decide) 229 (by decide) (by decide) ?_
        refine g_iload P248 d1_229 rfl ?_
        exact g_retI P248 d1_231 (by decide) (by decide) ⟨_, p0, (p0 + 3), (p0 + 3), rfl, AT, ltn, hB2, AX, Or.inr ⟨rfl, hseg, rfl⟩, by omega, fun i hi => by rw [List.getElem?_set_ne (by omega), List.getElem?_set_ne (by omega), List.getElem?_set_ne (by omega)], Zc, K⟩
    · refine g_ifNo P0 d1_21 ((if0 _ _).trans (feq hqu).1) ?_
      refine g_iconst (v := (1 : Int32)) P0 d1_24 (by rfl) ?_
      refine g_goto P0 d1_25 29 (by decide) (by decide) ?_
      refine g_istore P0 d1_29 #[.val (.ref tx), .val (.int (iN p0)), .val (.ref xp), .val (.int iv), .val (.int sh), .val (.int by_), .val (.int kv), .val (.int (0 : Int32)), .val (.int (3 : Int32)), .val (.int (1 : Int32)), .unset, .unset, .unset] rfl ?_
      refine g_iloadN P0 d1_31 rfl ?_
      refine g_iload P0 d1_32 rfl ?_
      refine g_iconst (v := (1 : Int32)) P0 d1_34 (by rfl) ?_
      refine g_isub (v := (kv - (1 : Int32))) P0 d1_35 rfl ?_
      by_cases hl : iv = (kv - (1 : Int32))
      · refine g_icmpNo P0 d1_36 (teq hl).2 ?_
        refine g_iconst (v := (1 : Int32)) P0 d1_39 (by rfl) ?_
        refine g_goto P0 d1_40 44 (by decide) (by decide) ?_
        refine g_istore P0 d1_44 #[.val (.ref tx), .val (.int (iN p0)), .val (.ref xp), .val (.int iv), .val (.int sh), .val (.int by_), .val (.int kv), .val (.int (0 : Int32)), .val (.int (3 : Int32)), .val (.int (1 : Int32)), .val (.int (1 : Int32)), .unset, .unset] rfl ?_
        refine g_iloadN P0 d1_46 rfl ?_
        refine g_istore P0 d1_47 #[.val (.ref tx), .val (.int (iN p0)), .val (.ref xp), .val (.int iv), .val (.int sh), .val (.int by_), .val (.int kv), .val (.int (0 : Int32)), .val (.int (3 : Int32)), .val (.int (1 : Int32)), .val (.int (1 : Int32)), .val (.int (iN p0)), .unset] rfl ?_
        refine g_iload P0 d1_49 rfl ?_
        refine g_ifNo P0 d1_51 (by decide) ?_
        refine g_aloadN P0 d1_54 rfl rfl ?_
        refine g_iload P0 d1_55 rfl ?_
        refine g_bipush (v := (34 : Int32)) P0 d1_57 (by rfl) ?_
        refine g_bastoreB (i := p0) (w := 34) P0 d1_59 AT (ix_iN (by omega)) (by simp only [List.length_map, List.length_set]; omega) ge (by decide) fun T249 h249 P249 W249 AT => ?_
        rw [map_set'] at AT
        have K := K.wr W249 (Or.inl (by simp))
        have AX := AX.other W249 xt
        obtain ⟨tc, htc⟩ : ∃ tc, tc = t.set p0 34 := ⟨_, rfl⟩
        rw [← htc] at AT
        have lt : tc.length = 32 := by rw [htc, List.length_set]; exact lt
        have hB : AllB tc := by rw [htc]; exact hB.set (by decide)
        have Zc : Zs tc (p0 + 1) 32 := by rw [htc]; exact (hZ.sub (by omega) (Nat.le_refl _)).set (by omega)
        have LOW : ∀ i, i < p0 → tc[i]? = t[i]? := fun i hi => by rw [htc, List.getElem?_set_ne (by omega)]
        have H34 : tc[p0]? = some 34 := by rw [htc, List.getElem?_set_self (by omega)]
        have HQ : QSeg tc (p0 + 1) (p0 + 1) := QSeg.nil
        refine g_iload P249 d1_60 rfl ?_
        refine g_iconst (v := (1 : Int32)) P249 d1_62 (by rfl) ?_
        refine g_iadd (v := (iN (p0 + 1))) P249 d1_63 (iN_add _ 1) ?_
        refine g_istore P249 d1_64 #[.val (.ref tx), .val (.int (iN p0)), .val (.ref xp), .val (.int iv), .val (.int sh), .val (.int by_), .val (.int kv), .val (.int (0 : Int32)), .val (.int (3 : Int32)), .val (.int (1 : Int32)), .val (.int (1 : Int32)), .val (.int (iN (p0 + 1))), .unset] rfl ?_
        refine g_iload P249 d1_66 rfl ?_
        refine g_istore P249 d1_68 #[.val (.ref tx), .val (.int (iN p0)), .val (.ref xp), .val (.int iv), .val (.int sh), .val (.int by_), .val (.int kv), .val (.int (0 : Int32)), .val (.int (3 : Int32)), .val (.int (1 : Int32)), .val (.int (1 : Int32)), .val (.int (iN (p0 + 1))), .val (.int (iN (p0 + 1)))] rfl ?_
        refine g_iload P249 d1_70 rfl ?_
        refine g_ifNo P249 d1_72 (by decide) ?_
        refine g_aloadN P249 d1_75 rfl rfl ?_
        refine g_iload P249 d1_76 rfl ?_
        refine g_iload P249 d1_78 rfl ?_
        refine g_bipush (v := (127 : Int32)) P249 d1_80 (by rfl) ?_
        refine g_iand (v := (by_ &&& (127 : Int32))) P249 d1_82 rfl ?_
        refine g_iload P249 d1_83 rfl ?_
        refine g_iload P249 d1_85 rfl ?_
        refine g_iconst (v := (1 : Int32)) P249 d1_87 (by rfl) ?_
        refine g_icmpYes P249 d1_88 (by decide) 95 (by decide) (by decide) ?_
        refine g_iconst (v := (0 : Int32)) P249 d1_95 (by rfl) ?_
        refine g_static P249 [(.ref tx), (.int (iN (p0 + 1))), (.int (by_ &&& (127 : Int32))), (.int (1 : Int32)), (.int (0 : Int32))] (rest := []) (W := 0) d1_96 (hw _ (List.mem_of_getElem? (i := 78) rfl)) (hw _ (List.mem_of_getElem? (i := 79) rfl)) (hw _ (List.mem_of_getElem? (i := 4) rfl)) (hw _ (List.mem_of_getElem? (i := 80) rfl)) (by decide) (rm_putq l Z a0 hw _ n0 tx kt tc (p0 + 1) (by_ &&& (127 : Int32)) (0 : Int32) trivial AT lt hB (m127 _) (by omega) ge) pd_7 rfl rfl rfl rfl (by decide) (by decide) (by decide) (by decide) fun v250 T250 h250 P250 q250 => ?_
        obtain ⟨t0, q0, rfl, AT, lt, ha0, hb0, hlow, hhigh, hQ, hB, K'⟩ := q250
        have K := K.trans K' (fun x hx => Or.inl (by simp at hx; simp [hx]))
        have AX := AX.keep K' (ninS xt nin0)
        have HQ := (HQ.congr hlow).trans hQ
        have Zc : Zs t0 q0 32 := fun i h1 h2 => (hhigh i h1).trans (Zc i (by omega) h2)
        have LOW : ∀ i, i < p0 → t0[i]? = t[i]? := fun i hi => (hlow i (by omega)).trans (LOW i hi)
        have H34 := (hlow p0 (by omega)).trans H34
        refine g_istore P250 d1_99 #[.val (.ref tx), .val (.int (iN p0)), .val (.ref xp), .val (.int iv), .val (.int sh), .val (.int by_), .val (.int kv), .val (.int (0 : Int32)), .val (.int (3 : Int32)), .val (.int (1 : Int32)), .val (.int (1 : Int32)), .val (.int (iN q0)), .val (.int (iN (p0 + 1)))] rfl ?_
        refine g_iload P250 d1_101 rfl ?_
        refine g_iconst (v := (1 : Int32)) P250 d1_103 (by rfl) ?_
        refine g_icmpNo P250 d1_104 (by decide) ?_
        refine g_aloadN P250 d1_107 rfl rfl ?_
        refine g_iload P250 d1_108 rfl ?_
        refine g_iload P250 d1_110 rfl ?_
        refine g_bipush (v := (8 : Int32)) P250 d1_112 (by rfl) ?_
        refine g_iushr (v := (XT.ushr by_ (8 : Int32))) P250 d1_114 rfl ?_
        refine g_bipush (v := (127 : Int32)) P250 d1_115 (by rfl) ?_
        refine g_iand (v := ((XT.ushr by_ (8 : Int32)) &&& (127 : Int32))) P250 d1_117 rfl ?_
        refine g_iload P250 d1_118 rfl ?_
        refine g_iload P250 d1_120 rfl ?_
        refine g_iconst (v := (2 : Int32)) P250 d1_122 (by rfl) ?_
        refine g_icmpYes P250 d1_123 (by decide) 130 (by decide) (by decide) ?_
        refine g_iconst (v := (0 : Int32)) P250 d1_130 (by rfl) ?_
        refine g_static P250 [(.ref tx), (.int (iN q0)), (.int ((XT.ushr by_ (8 : Int32)) &&& (127 : Int32))), (.int (1 : Int32)), (.int (0 : Int32))] (rest := []) (W := 0) d1_131 (hw _ (List.mem_of_getElem? (i := 78) rfl)) (hw _ (List.mem_of_getElem? (i := 79) rfl)) (hw _ (List.mem_of_getElem? (i := 4) rfl)) (hw _ (List.mem_of_getElem? (i := 80) rfl)) (by decide) (rm_putq l Z a0 hw _ n0 tx kt t0 q0 ((XT.ushr by_ (8 : Int32)) &&& (127 : Int32)) (0 : Int32) trivial AT lt hB (m127 _) (by omega) ge) pd_7 rfl rfl rfl rfl (by decide) (by decide) (by decide) (by decide) fun v251 T251 h251 P251 q251 => ?_
        obtain ⟨t1, q1, rfl, AT, lt, ha1, hb1, hlow, hhigh, hQ, hB, K'⟩ := q251
        have K := K.trans K' (fun x hx => Or.inl (by simp at hx; simp [hx]))
        have AX := AX.keep K' (ninS xt nin0)
        have HQ := (HQ.congr hlow).trans hQ
        have Zc : Zs t1 q1 32 := fun i h1 h2 => (hhigh i h1).trans (Zc i (by omega) h2)
        have LOW : ∀ i, i < p0 → t1[i]? = t[i]? := fun i hi => (hlow i (by omega)).trans (LOW i hi)
        have H34 := (hlow p0 (by omega)).trans H34
        refine g_istore P251 d1_134 #[.val (.ref tx), .val (.int (iN p0)), .val (.ref xp), .val (.int iv), .val (.int sh), .val (.int by_), .val (.int kv), .val (.int (0 : Int32)), .val (.int (3 : Int32)), .val (.int (1 : Int32)), .val (.int (1 : Int32)), .val (.int (iN q1)), .val (.int (iN (p0 + 1)))] rfl ?_
        refine g_iload P251 d1_136 rfl ?_
        refine g_iconst (v := (2 : Int32)) P251 d1_138 (by rfl) ?_
        refine g_icmpNo P251 d1_139 (by decide) ?_
        refine g_aloadN P251 d1_142 rfl rfl ?_
        refine g_iload P251 d1_143 rfl ?_
        refine g_iload P251 d1_145 rfl ?_
        refine g_bipush (v := (16 : Int32)) P251 d1_147 (by rfl) ?_
        refine g_iushr (v := (XT.ushr by_ (16 : Int32))) P251 d1_149 rfl ?_
        refine g_bipush (v := (127 : Int32)) P251 d1_150 (by rfl) ?_
        refine g_iand (v := ((XT.ushr by_ (16 : Int32)) &&& (127 : Int32))) P251 d1_152 rfl ?_
        refine g_iload P251 d1_153 rfl ?_
        refine g_iconst (v := (1 : Int32)) P251 d1_155 (by rfl) ?_
        refine g_static P251 [(.ref tx), (.int (iN q1)), (.int ((XT.ushr by_ (16 : Int32)) &&& (127 : Int32))), (.int (1 : Int32)), (.int (1 : Int32))] (rest := []) (W := 0) d1_156 (hw _ (List.mem_of_getElem? (i := 78) rfl)) (hw _ (List.mem_of_getElem? (i := 79) rfl)) (hw _ (List.mem_of_getElem? (i := 4) rfl)) (hw _ (List.mem_of_getElem? (i := 80) rfl)) (by decide) (rm_putq l Z a0 hw _ n0 tx kt t1 q1 ((XT.ushr by_ (16 : Int32)) &&& (127 : Int32)) (1 : Int32) trivial AT lt hB (m127 _) (by omega) ge) pd_7 rfl rfl rfl rfl (by decide) (by decide) (by decide) (by decide) fun v252 T252 h252 P252 q252 => ?_
        obtain ⟨t2, q2, rfl, AT, lt, ha2, hb2, hlow, hhigh, hQ, hB, K'⟩ := q252
        have K := K.trans K' (fun x hx => Or.inl (by simp at hx; simp [hx]))
        have AX := AX.keep K' (ninS xt nin0)
        have HQ := (HQ.congr hlow).trans hQ
        have Zc : Zs t2 q2 32 := fun i h1 h2 => (hhigh i h1).trans (Zc i (by omega) h2)
        have LOW : ∀ i, i < p0 → t2[i]? = t[i]? := fun i hi => (hlow i (by omega)).trans (LOW i hi)
        have H34 := (hlow p0 (by omega)).trans H34
        refine g_istore P252 d1_159 #[.val (.ref tx), .val (.int (iN p0)), .val (.ref xp), .val (.int iv), .val (.int sh), .val (.int by_), .val (.int kv), .val (.int (0 : Int32)), .val (.int (3 : Int32)), .val (.int (1 : Int32)), .val (.int (1 : Int32)), .val (.int (iN q2)), .val (.int (iN (p0 + 1)))] rfl ?_
        refine g_iload P252 d1_161 rfl ?_
        refine g_ifNo P252 d1_163 (by decide) ?_
        refine g_iload P252 d1_166 rfl ?_
        refine g_ifYes P252 d1_168 (by decide) 204 (by decide) (by decide) ?_
        refine g_aloadN P252 d1_204 rfl rfl ?_
        refine g_iloadN P252 d1_205 rfl ?_
        refine g_iload P252 d1_206 rfl ?_
        refine g_iload P252 d1_208 rfl ?_
        refine g_isub (v := ((iN q2) - (iN (p0 + 1)))) P252 d1_210 rfl ?_
        refine g_iastore (i := xi) P252 d1_211 AX IX (by rw [List.length_map]; omega) gx fun T253 h253 P253 W253 AX => ?_
        rw [map_set'] at AX
        have K := K.wr W253 (Or.inl (by simp))
        have AT := AT.other W253 tx_
        refine g_iload P253 d1_212 rfl ?_
        refine g_ifNo P253 d1_214 (by decide) ?_
        refine g_aloadN P253 d1_217 rfl rfl ?_
        refine g_iload P253 d1_218 rfl ?_
        refine g_bipush (v := (34 : Int32)) P253 d1_220 (by rfl) ?_
        refine g_bastoreB (i := q2) (w := 34) P253 d1_222 AT (ix_iN (by omega)) (by simp only [List.length_map, List.length_set]; omega) ge (by decide) fun T254 h254 P254 W254 AT => ?_
        rw [map_set'] at AT
        have K := K.wr W254 (Or.inl (by simp))
        have AX := AX.other W254 xt
        refine g_iload P254 d1_223 rfl ?_
        refine g_iconst (v := (1 : Int32)) P254 d1_225 (by rfl) ?_
        refine g_iadd (v := (iN (q2 + 1))) P254 d1_226 (iN_add _ 1) ?_
        refine g_istore P254 d1_227 #[.val (.ref tx), .val (.int (iN p0)), .val (.ref xp), .val (.int iv), .val (.int sh), .val (.int by_), .val (.int kv), .val (.int (0 : Int32)), .val (.int (3 : Int32)), .val (.int (1 : Int32)), .val (.int (1 : Int32)), .val (.int (iN (q2 + 1))), .val (.int (iN (p0 + 1)))] rfl ?_
        refine g_iload P254 d1_229 rfl ?_
        exact g_retI P254 d1_231 (by decide) (by decide) ⟨_, p0 + 1, q2, q2 + 1, rfl, AT, by rw [List.length_set]; exact lt, hB.set (by decide), AX, Or.inl ⟨by rw [List.getElem?_set_ne (by omega)]; exact H34, rfl, HQ.congr (fun i hi => by rw [List.getElem?_set_ne (by omega)]), by rw [List.getElem?_set_self (by omega)], rfl⟩, by omega, fun i hi => by rw [List.getElem?_set_ne (by omega)]; exact LOW i hi, (Zc.sub (by omega) (Nat.le_refl _)).set (by omega), K⟩
      · refine g_icmpYes P0 d1_36 (feq hl).2 43 (by decide) (by decide) ?_
        refine g_iconst (v := (0 : Int32)) P0 d1_43 (by rfl) ?_
        refine g_istore P0 d1_44 #[.val (.ref tx), .val (.int (iN p0)), .val (.ref xp), .val (.int iv), .val (.int sh), .val (.int by_), .val (.int kv), .val (.int (0 : Int32)), .val (.int (3 : Int32)), .val (.int (1 : Int32)), .val (.int (0 : Int32)), .unset, .unset] rfl ?_
        refine g_iloadN P0 d1_46 rfl ?_
        refine g_istore P0 d1_47 #[.val (.ref tx), .val (.int (iN p0)), .val (.ref xp), .val (.int iv), .val (.int sh), .val (.int by_), .val (.int kv), .val (.int (0 : Int32)), .val (.int (3 : Int32)), .val (.int (1 : Int32)), .val (.int (0 : Int32)), .val (.int (iN p0)), .unset] rfl ?_
        refine g_iload P0 d1_49 rfl ?_
        refine g_ifNo P0 d1_51 (by decide) ?_
        refine g_aloadN P0 d1_54 rfl rfl ?_
        refine g_iload P0 d1_55 rfl ?_
        refine g_bipush (v := (34 : Int32)) P0 d1_57 (by rfl) ?_
        refine g_bastoreB (i := p0) (w := 34) P0 d1_59 AT (ix_iN (by omega)) (by simp only [List.length_map, List.length_set]; omega) ge (by decide) fun T255 h255 P255 W255 AT => ?_
        rw [map_set'] at AT
        have K := K.wr W255 (Or.inl (by simp))
        have AX := AX.other W255 xt
        obtain ⟨tc, htc⟩ : ∃ tc, tc = t.set p0 34 := ⟨_, rfl⟩
        rw [← htc] at AT
        have lt : tc.length = 32 := by rw [htc, List.length_set]; exact lt
        have hB : AllB tc := by rw [htc]; exact hB.set (by decide)
        have Zc : Zs tc (p0 + 1) 32 := by rw [htc]; exact (hZ.sub (by omega) (Nat.le_refl _)).set (by omega)
        have LOW : ∀ i, i < p0 → tc[i]? = t[i]? := fun i hi => by rw [htc, List.getElem?_set_ne (by omega)]
        have H34 : tc[p0]? = some 34 := by rw [htc, List.getElem?_set_self (by omega)]
        have HQ : QSeg tc (p0 + 1) (p0 + 1) := QSeg.nil
        refine g_iload P255 d1_60 rfl ?_
        refine g_iconst (v := (1 : Int32)) P255 d1_62 (by rfl) ?_
        refine g_iadd (v := (iN (p0 + 1))) P255 d1_63 (iN_add _ 1) ?_
        refine g_istore P255 d1_64 #[.val (.ref tx), .val (.int (iN p0)), .val (.ref xp), .val (.int iv), .val (.int sh), .val (.int by_), .val (.int kv), .val (.int (0 : Int32)), .val (.int (3 : Int32)), .val (.int (1 : Int32)), .val (.int (0 : Int32)), .val (.int (iN (p0 + 1))), .unset] rfl ?_
        refine g_iload P255 d1_66 rfl ?_
        refine g_istore P255 d1_68 #[.val (.ref tx), .val (.int (iN p0)), .val (.ref xp), .val (.int iv), .val (.int sh), .val (.int by_), .val (.int kv), .val (.int (0 : Int32)), .val (.int (3 : Int32)), .val (.int (1 : Int32)), .val (.int (0 : Int32)), .val (.int (iN (p0 + 1))), .val (.int (iN (p0 + 1)))] rfl ?_
        refine g_iload P255 d1_70 rfl ?_
        refine g_ifNo P255 d1_72 (by decide) ?_
        refine g_aloadN P255 d1_75 rfl rfl ?_
        refine g_iload P255 d1_76 rfl ?_
        refine g_iload P255 d1_78 rfl ?_
        refine g_bipush (v := (127 : Int32)) P255 d1_80 (by rfl) ?_
        refine g_iand (v := (by_ &&& (127 : Int32))) P255 d1_82 rfl ?_
        refine g_iload P255 d1_83 rfl ?_
        refine g_iload P255 d1_85 rfl ?_
        refine g_iconst (v := (1 : Int32)) P255 d1_87 (by rfl) ?_
        refine g_icmpYes P255 d1_88 (by decide) 95 (by decide) (by decide) ?_
        refine g_iconst (v := (0 : Int32)) P255 d1_95 (by rfl) ?_
        refine g_static P255 [(.ref tx), (.int (iN (p0 + 1))), (.int (by_ &&& (127 : Int32))), (.int (1 : Int32)), (.int (0 : Int32))] (rest := []) (W := 0) d1_96 (hw _ (List.mem_of_getElem? (i := 78) rfl)) (hw _ (List.mem_of_getElem? (i := 79) rfl)) (hw _ (List.mem_of_getElem? (i := 4) rfl)) (hw _ (List.mem_of_getElem? (i := 80) rfl)) (by decide) (rm_putq l Z a0 hw _ n0 tx kt tc (p0 + 1) (by_ &&& (127 : Int32)) (0 : Int32) trivial AT lt hB (m127 _) (by omega) ge) pd_7 rfl rfl rfl rfl (by decide) (by decide) (by decide) (by decide) fun v256 T256 h256 P256 q256 => ?_
        obtain ⟨t0, q0, rfl, AT, lt, ha0, hb0, hlow, hhigh, hQ, hB, K'⟩ := q256
        have K := K.trans K' (fun x hx => Or.inl (by simp at hx; simp [hx]))
        have AX := AX.keep K' (ninS xt nin0)
        have HQ := (HQ.congr hlow).trans hQ
        have Zc : Zs t0 q0 32 := fun i h1 h2 => (hhigh i h1).trans (Zc i (by omega) h2)
        have LOW : ∀ i, i < p0 → t0[i]? = t[i]? := fun i hi => (hlow i (by omega)).trans (LOW i hi)
        have H34 := (hlow p0 (by omega)).trans H34
        refine g_istore P256 d1_99 #[.val (.ref tx), .val (.int (iN p0)), .val (.ref xp), .val (.int iv), .val (.int sh), .val (.int by_), .val (.int kv), .val (.int (0 : Int32)), .val (.int (3 : Int32)), .val (.int (1 : Int32)), .val (.int (0 : Int32)), .val (.int (iN q0)), .val (.int (iN (p0 + 1)))] rfl ?_
        refine g_iload P256 d1_101 rfl ?_
        refine g_iconst (v := (1 : Int32)) P256 d1_103 (by rfl) ?_
        refine g_icmpNo P256 d1_104 (by decide) ?_
        refine g_aloadN P256 d1_107 rfl rfl ?_
        refine g_iload P256 d1_108 rfl ?_
        refine g_iload P256 d1_110 rfl ?_
        refine g_bipush (v := (8 : Int32)) P256 d1_112 (by rfl) ?_
        refine g_iushr (v := (XT.ushr by_ (8 : Int32))) P256 d1_114 rfl ?_
        refine g_bipush (v := (127 : Int32)) P256 d1_115 (by rfl) ?_
        refine g_iand (v := ((XT.ushr by_ (8 : Int32)) &&& (127 : Int32))) P256 d1_117 rfl ?_
        refine g_iload P256 d1_118 rfl ?_
        refine g_iload P256 d1_120 rfl ?_
        refine g_iconst (v := (2 : Int32)) P256 d1_122 (by rfl) ?_
        refine g_icmpYes P256 d1_123 (by decide) 130 (by decide) (by decide) ?_
        refine g_iconst (v := (0 : Int32)) P256 d1_130 (by rfl) ?_
        refine g_static P256 [(.ref tx), (.int (iN q0)), (.int ((XT.ushr by_ (8 : Int32)) &&& (127 : Int32))), (.int (1 : Int32)), (.int (0 : Int32))] (rest := []) (W := 0) d1_131 (hw _ (List.mem_of_getElem? (i := 78) rfl)) (hw _ (List.mem_of_getElem? (i := 79) rfl)) (hw _ (List.mem_of_getElem? (i := 4) rfl)) (hw _ (List.mem_of_getElem? (i := 80) rfl)) (by decide) (rm_putq l Z a0 hw _ n0 tx kt t0 q0 ((XT.ushr by_ (8 : Int32)) &&& (127 : Int32)) (0 : Int32) trivial AT lt hB (m127 _) (by omega) ge) pd_7 rfl rfl rfl rfl (by decide) (by decide) (by decide) (by decide) fun v257 T257 h257 P257 q257 => ?_
        obtain ⟨t1, q1, rfl, AT, lt, ha1, hb1, hlow, hhigh, hQ, hB, K'⟩ := q257
        have K := K.trans K' (fun x hx => Or.inl (by simp at hx; simp [hx]))
        have AX := AX.keep K' (ninS xt nin0)
        have HQ := (HQ.congr hlow).trans hQ
        have Zc : Zs t1 q1 32 := fun i h1 h2 => (hhigh i h1).trans (Zc i (by omega) h2)
        have LOW : ∀ i, i < p0 → t1[i]? = t[i]? := fun i hi => (hlow i (by omega)).trans (LOW i hi)
        have H34 := (hlow p0 (by omega)).trans H34
        refine g_istore P257 d1_134 #[.val (.ref tx), .val (.int (iN p0)), .val (.ref xp), .val (.int iv), .val (.int sh), .val (.int by_), .val (.int kv), .val (.int (0 : Int32)), .val (.int (3 : Int32)), .val (.int (1 : Int32)), .val (.int (0 : Int32)), .val (.int (iN q1)), .val (.int (iN (p0 + 1)))] rfl ?_
        refine g_iload P257 d1_136 rfl ?_
        refine g_iconst (v := (2 : Int32)) P257 d1_138 (by rfl) ?_
        refine g_icmpNo P257 d1_139 (by decide) ?_
        refine g_aloadN P257 d1_142 rfl rfl ?_
        refine g_iload P257 d1_143 rfl ?_
        refine g_iload P257 d1_145 rfl ?_
        refine g_bipush (v := (16 : Int32)) P257 d1_147 (by rfl) ?_
        refine g_iushr (v := (XT.ushr by_ (16 : Int32))) P257 d1_149 rfl ?_
        refine g_bipush (v := (127 : Int32)) P257 d1_150 (by rfl) ?_
        refine g_iand (v := ((XT.ushr by_ (16 : Int32)) &&& (127 : Int32))) P257 d1_152 rfl ?_
        refine g_iload P257 d1_153 rfl ?_
        refine g_iconst (v := (1 : Int32)) P257 d1_155 (by rfl) ?_
        refine g_static P257 [(.ref tx), (.int (iN q1)), (.int ((XT.ushr by_ (16 : Int32)) &&& (127 : Int32))), (.int (1 : Int32)), (.int (1 : Int32))] (rest := []) (W := 0) d1_156 (hw _ (List.mem_of_getElem? (i := 78) rfl)) (hw _ (List.mem_of_getElem? (i := 79) rfl)) (hw _ (List.mem_of_getElem? (i := 4) rfl)) (hw _ (List.mem_of_getElem? (i := 80) rfl)) (by decide) (rm_putq l Z a0 hw _ n0 tx kt t1 q1 ((XT.ushr by_ (16 : Int32)) &&& (127 : Int32)) (1 : Int32) trivial AT lt hB (m127 _) (by omega) ge) pd_7 rfl rfl rfl rfl (by decide) (by decide) (by decide) (by decide) fun v258 T258 h258 P258 q258 => ?_
        obtain ⟨t2, q2, rfl, AT, lt, ha2, hb2, hlow, hhigh, hQ, hB, K'⟩ := q258
        have K := K.trans K' (fun x hx => Or.inl (by simp at hx; simp [hx]))
        have AX := AX.keep K' (ninS xt nin0)
        have HQ := (HQ.congr hlow).trans hQ
        have Zc : Zs t2 q2 32 := fun i h1 h2 => (hhigh i h1).trans (Zc i (by omega) h2)
        have LOW : ∀ i, i < p0 → t2[i]? = t[i]? := fun i hi => (hlow i (by omega)).trans (LOW i hi)
        have H34 := (hlow p0 (by omega)).trans H34
        refine g_istore P258 d1_159 #[.val (.ref tx), .val (.int (iN p0)), .val (.ref xp), .val (.int iv), .val (.int sh), .val (.int by_), .val (.int kv), .val (.int (0 : Int32)), .val (.int (3 : Int32)), .val (.int (1 : Int32)), .val (.int (0 : Int32)), .val (.int (iN q2)), .val (.int (iN (p0 + 1)))] rfl ?_
        refine g_iload P258 d1_161 rfl ?_
        refine g_ifYes P258 d1_163 (by decide) 204 (by decide) (by decide) ?_
        refine g_aloadN P258 d1_204 rfl rfl ?_
        refine g_iloadN P258 d1_205 rfl ?_
        refine g_iload P258 d1_206 rfl ?_
        refine g_iload P258 d1_208 rfl ?_
        refine g_isub (v := ((iN q2) - (iN (p0 + 1)))) P258 d1_210 rfl ?_
        refine g_iastore (i := xi) P258 d1_211 AX IX (by rw [List.length_map]; omega) gx fun T259 h259 P259 W259 AX => ?_
        rw [map_set'] at AX
        have K := K.wr W259 (Or.inl (by simp))
        have AT := AT.other W259 tx_
        refine g_iload P259 d1_212 rfl ?_
        refine g_ifNo P259 d1_214 (by decide) ?_
        refine g_aloadN P259 d1_217 rfl rfl ?_
        refine g_iload P259 d1_218 rfl ?_
        refine g_bipush (v := (34 : Int32)) P259 d1_220 (by rfl) ?_
        refine g_bastoreB (i := q2) (w := 34) P259 d1_222 AT (ix_iN (by omega)) (by simp only [List.length_map, List.length_set]; omega) ge (by decide) fun T260 h260 P260 W260 AT => ?_
        rw [map_set'] at AT
        have K := K.wr W260 (Or.inl (by simp))
        have AX := AX.other W260 xt
        refine g_iload P260 d1_223 rfl ?_
        refine g_iconst (v := (1 : Int32)) P260 d1_225 (by rfl) ?_
        refine g_iadd (v := (iN (q2 + 1))) P260 d1_226 (iN_add _ 1) ?_
        refine g_istore P260 d1_227 #[.val (.ref tx), .val (.int (iN p0)), .val (.ref xp), .val (.int iv), .val (.int sh), .val (.int by_), .val (.int kv), .val (.int (0 : Int32)), .val (.int (3 : Int32)), .val (.int (1 : Int32)), .val (.int (0 : Int32)), .val (.int (iN (q2 + 1))), .val (.int (iN (p0 + 1)))] rfl ?_
        refine g_iload P260 d1_229 rfl ?_
        exact g_retI P260 d1_231 (by decide) (by decide) ⟨_, p0 + 1, q2, q2 + 1, rfl, AT, by rw [List.length_set]; exact lt, hB.set (by decide), AX, Or.inl ⟨by rw [List.getElem?_set_ne (by omega)]; exact H34, rfl, HQ.congr (fun i hi => by rw [List.getElem?_set_ne (by omega)]), by rw [List.getElem?_set_self (by omega)], rfl⟩, by omega, fun i hi => by rw [List.getElem?_set_ne (by omega)]; exact LOW i hi, (Zc.sub (by omega) (Nat.le_refl _)).set (by omega), K⟩
set_option maxRecDepth 65536 in
set_option maxHeartbeats 40000000 in
theorem rm_field_mid1 (l : Launch) (Z : State) (a0 : Array Value) (hw : ∀ d ∈ tables_1, d.before a0 Z = true) (h0 : Heap) (n0 : Nat) (tx xp : Addr) (kt kx : ClassId) (t xs : List Int32) (p0 xi : Nat) (iv sh by_ kv : Int32) (AT : AL Z h0 tx kt .byte (t.map .int)) (lt : t.length = 32) (hB : AllB t) (hZ : Zs t p0 32) (hp : p0 ≤ 20) (AX : AL Z h0 xp kx .int (xs.map .int)) (IX : Ix iv xi) (hxi : xi < xs.length) (ge : n0 ≤ tx) (gx : n0 ≤ xp) (xt : xp ≠ tx) (tx_ : tx ≠ xp) (hl : ¬ iv = kv - (1 : Int32)) :
    Met l Z (⟨"com/example/lintel/lintel/io/CsvReaderLengthPinLaw", "field", "([BI[IIIIIZ)I"⟩ : MethodName) method_3_code 13 (some .int) ({ frames := 1, cells := 0, slots := 0, locals := 20 } : Room) n0 #[(.ref tx), (.int (iN p0)), (.ref xp), (.int iv), (.int sh), (.int by_), (.int kv), (.int (1 : Int32))] h0 (fun v h => ∃ t' s0 e0 f0, v = some (.int (iN f0)) ∧ AL Z h tx kt .byte (t'.map .int) ∧ t'.length = 32 ∧ AllB t' ∧ AL Z h xp kx .int ((xs.set xi (iN e0 - iN s0)).map .int) ∧ FieldAt t' p0 s0 e0 f0 ∧ f0 ≤ p0 + 8 ∧ (∀ i, i < p0 → t'[i]? = t[i]?) ∧ Zs t' f0 32 ∧ Keep h0 h [tx, xp]) := by
  refine Met.intro (by decide +kernel) ?_
  intro p e s m below meth cc T0 P0
  refine Go.cast (g' := mkF m 0 #[.val (.ref tx), .val (.int (iN p0)), .val (.ref xp), .val (.int iv), .val (.int sh), .val (.int by_), .val (.int kv), .val (.int (1 : Int32)), .unset, .unset, .unset, .unset, .unset] []) (by first | (simp [entryFrame, mkF, argsToLocals, Value.category, maxLocals]; done) | rfl) ?_
  have K : Keep h0 h0 [tx, xp] := Keep.refl _ _
  have LOW : ∀ i, i < p0 → t[i]? = t[i]? := fun _ _ => rfl
  refine g_iload P0 d1_0 rfl ?_
  refine g_iconst (v := (2 : Int32)) P0 d1_2 (by rfl) ?_
  refine g_iconst (v := (2 : Int32)) P0 d1_3 (by rfl) ?_
  refine g_iloadN P0 d1_4 rfl ?_
  refine g_imul (v := ((2 : Int32) * iv)) P0 d1_5 rfl ?_
  refine g_iadd (v := ((2 : Int32) + ((2 : Int32) * iv))) P0 d1_6 rfl ?_
  refine g_iushr (v := (XT.ushr sh ((2 : Int32) + ((2 : Int32) * iv)))) P0 d1_7 rfl ?_
  refine g_iconst (v := (3 : Int32)) P0 d1_8 (by rfl) ?_
  refine g_iand (v := ((XT.ushr sh ((2 : Int32) + ((2 : Int32) * iv))) &&& (3 : Int32))) P0 d1_9 rfl ?_
  have hn := m3 ((XT.ushr sh ((2 : Int32) + ((2 : Int32) * iv))))
  generalize ((XT.ushr sh ((2 : Int32) + ((2 : Int32) * iv))) &&& (3 : Int32)) = nn at hn ⊢
  rcases hn with rfl | rfl | rfl | rfl
  · refine g_istore P0 d1_10 #[.val (.ref tx), .val (.int (iN p0)), .val (.ref xp), .val (.int iv), .val (.int sh), .val (.int by_), .val (.int kv), .val (.int (1 : Int32)), .val (.int (0 : Int32)), .unset, .unset, .unset, .unset] rfl ?_
    refine g_iload P0 d1_12 rfl ?_
    refine g_bipush (v := (8 : Int32)) P0 d1_14 (by rfl) ?_
    refine g_iloadN P0 d1_16 rfl ?_
    refine g_iadd (v := ((8 : Int32) + iv)) P0 d1_17 rfl ?_
    refine g_iushr (v := (XT.ushr sh ((8 : Int32) + iv))) P0 d1_18 rfl ?_
    refine g_iconst (v := (1 : Int32)) P0 d1_19 (by rfl) ?_
    refine g_iand (v := ((XT.ushr sh ((8 : Int32) + iv)) &&& (1 : Int32))) P0 d1_20 rfl ?_
    by_cases hqu : ((XT.ushr sh ((8 : Int32) + iv)) &&& (1 : Int32)) = (0 : Int32)
    · refine g_ifYes P0 d1_21 ((if0 _ _).trans (teq hqu).1) 28 (by decide) (by decide) ?_
      refine g_iconst (v := (0 : Int32)) P0 d1_28 (by rfl) ?_
      refine g_istore P0 d1_29 #[.val (.ref tx), .val (.int (iN p0)), .val (.ref xp), .val (.int iv), .val (.int sh), .val (.int by_), .val (.int kv), .val (.int (1 : Int32)), .val (.int (0 : Int32)), .val (.int (0 : Int32)), .unset, .unset, .unset] rfl ?_
      refine g_iloadN P0 d1_31 rfl ?_
      refine g_iload P0 d1_32 rfl ?_
      refine g_iconst (v := (1 : Int32)) P0 d1_34 (by rfl) ?_
      refine g_isub (v := (kv - (1 : Int32))) P0 d1_35 rfl ?_
      refine g_icmpYes P0 d1_36 (feq hl).2 43 (by decide) (by decide) ?_
      refine g_iconst (v := (0 : Int32)) P0 d1_43 (by rfl) ?_
      refine g_istore P0 d1_44 #[.val (.ref tx), .val (.int (iN p0)), .val (.ref xp), .val (.int iv), .val (.int sh), .val (.int by_), .val (.int kv), .val (.int (1 : Int32)), .val (.int (0 : Int32)), .val (.int (0 : Int32)), .val (.int (0 : Int32)), .unset, .unset] rfl ?_
      refine g_iloadN P0 d1_46 rfl ?_
      refine g_istore P0 d1_47 #[.val (.ref tx), .val (.int (iN p0)), .val (.ref xp), .val (.int iv), .val (.int sh), .val (.int by_), .val (.int kv), .val (.int (1 : Int32)), .val (.int (0 : Int32)), .val (.int (0 : Int32)), .val (.int (0 : Int32)), .val (.int (iN p0)), .unset] rfl ?_
      refine g_iload P0 d1_49 rfl ?_
      refine g_ifYes P0 d1_51 (by decide) 66 (by decide) (by decide) ?_
      refine g_iload P0 d1_66 rfl ?_
      refine g_istore P0 d1_68 #[.val (.ref tx), .val (.int (iN p0)), .val (.ref xp), .val (.int iv), .val (.int sh), .val (.int by_), .val (.int kv), .val (.int (1 : Int32)), .val (.int (0 : Int32)), .val (.int (0 : Int32)), .val (.int (0 : Int32)), .val (.int (iN p0)), .val (.int (iN p0))] rfl ?_
      refine g_iload P0 d1_70 rfl ?_
      refine g_ifYes P0 d1_72 (by decide) 101 (by decide) (by decide) ?_
      refine g_iload P0 d1_101 rfl ?_
      refine g_iconst (v := (1 : Int32)) P0 d1_103 (by rfl) ?_
      refine g_icmpYes P0 d1_104 (by decide) 136 (by decide) (by decide) ?_
      refine g_iload P0 d1_136 rfl ?_
      refine g_iconst (v := (2 : Int32)) P0 d1_138 (by rfl) ?_
      refine g_icmpYes P0 d1_139 (by decide) 161 (by decide) (by decide) ?_
      refine g_iload P0 d1_161 rfl ?_
      refine g_ifYes P0 d1_163 (by decide) 204 (by decide) (by decide) ?_
      refine g_aloadN P0 d1_204 rfl rfl ?_
      refine g_iloadN P0 d1_205 rfl ?_
      refine g_iload P0 d1_206 rfl ?_
      refine g_iload P0 d1_208 rfl ?_
      refine g_isub (v := ((iN p0) - (iN p0))) P0 d1_210 rfl ?_
      have hseg : PSeg t p0 p0 := PSeg.nil
      have ltn : t.length = 32 := by first | omega | (simp only [List.length_set]; omega)
      refine g_iastore (i := xi) P0 d1_211 AX IX (by rw [List.length_map]; omega) gx fun T261 h261 P261 W261 AX => ?_
      rw [map_set'] at AX
      have K := K.wr W261 (Or.inl (by simp))
      have AT := AT.other W261 tx_
      refine g_iload P261 d1_212 rfl ?_
      refine g_ifYes P261 d1_214 (by decide) 229 (by decide) (by decide) ?_
      refine g_iload P261 d1_229 rfl ?_
      exact g_retI P261 d1_231 (by decide) (by decide) ⟨_, p0, p0, p0, rfl, AT, ltn, hB, AX, Or.inr ⟨rfl, hseg, rfl⟩, by omega, fun i hi => rfl, hZ, K⟩
    · refine g_ifNo P0 d1_21 ((if0 _ _).trans (feq hqu).1) ?_
      refine g_iconst (v := (1 : Int32)) P0 d1_24 (by rfl) ?_
      refine g_goto P0 d1_25 29 (by decide) (by decide) ?_
      refine g_istore P0 d1_29 #[.val (.ref tx), .val (.int (iN p0)), .val (.ref xp), .val (.int iv), .val (.int sh), .val (.int by_), .val (.int kv), .val (.int (1 : Int32)), .val (.int (0 : Int32)), .val (.int (1 : Int32)), .unset, .unset, .unset] rfl ?_
      refine g_iloadN P0 d1_31 rfl ?_
      refine g_iload P0 d1_32 rfl ?_
      refine g_iconst (v := (1 : Int32)) P0 d1_34 (by rfl) ?_
      refine g_isub (v := (kv - (1 : Int32))) P0 d1_35 rfl ?_
      refine g_icmpYes P0 d1_36 (feq hl).2 43 (by decide) (by decide) ?_
      refine g_iconst (v := (0 : Int32)) P0 d1_43 (by rfl) ?_
      refine g_istore P0 d1_44 #[.val (.ref tx), .val (.int (iN p0)), .val (.ref xp), .val (.int iv), .val (.int sh), .val (.int by_), .val (.int kv), .val (.int (1 : Int32)), .val (.int (0 : Int32)), .val (.int (1 : Int32)), .val (.int (0 : Int32)), .unset, .unset] rfl ?_
      refine g_iloadN P0 d1_46 rfl ?_
      refine g_istore P0 d1_47 #[.val (.ref tx), .val (.int (iN p0)), .val (.ref xp), .val (.int iv), .val (.int sh), .val (.int by_), .val (.int kv), .val (.int (1 : Int32)), .val (.int (0 : Int32)), .val (.int (1 : Int32)), .val (.int (0 : Int32)), .val (.int (iN p0)), .unset] rfl ?_
      refine g_iload P0 d1_49 rfl ?_
      refine g_ifNo P0 d1_51 (by decide) ?_
      refine g_aloadN P0 d1_54 rfl rfl ?_
      refine g_iload P0 d1_55 rfl ?_
      refine g_bipush (v := (34 : Int32)) P0 d1_57 (by rfl) ?_
      refine g_bastoreB (i := p0) (w := 34) P0 d1_59 AT (ix_iN (by omega)) (by simp only [List.length_map, List.length_set]; omega) ge (by decide) fun T262 h262 P262 W262 AT => ?_
      rw [map_set'] at AT
      have K := K.wr W262 (Or.inl (by simp))
      have AX := AX.other W262 xt
      obtain ⟨tc, htc⟩ : ∃ tc, tc = t.set p0 34 := ⟨_, rfl⟩
      rw [← htc] at AT
      have lt : tc.length = 32 := by rw [htc, List.length_set]; exact lt
      have hB : AllB tc := by rw [htc]; exact hB.set (by decide)
      have Zc : Zs tc (p0 + 1) 32 := by rw [htc]; exact (hZ.sub (by omega) (Nat.le_refl _)).set (by omega)
      have LOW : ∀ i, i < p0 → tc[i]? = t[i]? := fun i hi => by rw [htc, List.getElem?_set_ne (by omega)]
      have H34 : tc[p0]? = some 34 := by rw [htc, List.getElem?_set_self (by omega)]
      have HQ : QSeg tc (p0 + 1) (p0 + 1) := QSeg.nil
      refine g_iload P262 d1_60 rfl ?_
      refine g_iconst (v := (1 : Int32)) P262 d1_62 (by rfl) ?_
      refine g_iadd (v := (iN (p0 + 1))) P262 d1_63 (iN_add _ 1) ?_
      refine g_istore P262 d1_64 #[.val (.ref tx), .val (.int (iN p0)), .val (.ref xp), .val (.int iv), .val (.int sh), .val (.int by_), .val (.int kv), .val (.int (1 : Int32)), .val (.int (0 : Int32)), .val (.int (1 : Int32)), .val (.int (0 : Int32)), .val (.int (iN (p0 + 1))), .unset] rfl ?_
      refine g_iload P262 d1_66 rfl ?_
      refine g_istore P262 d1_68 #[.val (.ref tx), .val (.int (iN p0)), .val (.ref xp), .val (.int iv), .val (.int sh), .val (.int by_), .val (.int kv), .val (.int (1 : Int32)), .val (.int (0 : Int32)), .val (.int (1 : Int32)), .val (.int (0 : Int32)), .val (.int (iN (p0 + 1))), .val (.int (iN (p0 + 1)))] rfl ?_
      refine g_iload P262 d1_70 rfl ?_
      refine g_ifYes P262 d1_72 (by decide) 101 (by decide) (by decide) ?_
      refine g_iload P262 d1_101 rfl ?_
      refine g_iconst (v := (1 : Int32)) P262 d1_103 (by rfl) ?_
      refine g_icmpYes P262 d1_104 (by decide) 136 (by decide) (by decide) ?_
      refine g_iload P262 d1_136 rfl ?_
      refine g_iconst (v := (2 : Int32)) P262 d1_138 (by rfl) ?_
      refine g_icmpYes P262 d1_139 (by decide) 161 (by decide) (by decide) ?_
      refine g_iload P262 d1_161 rfl ?_
      refine g_ifYes P262 d1_163 (by decide) 204 (by decide) (by decide) ?_
      refine g_aloadN P262 d1_204 rfl rfl ?_
      refine g_iloadN P262 d1_205 rfl ?_
      refine g_iload P262 d1_206 rfl ?_
      refine g_iload P262 d1_208 rfl ?_
      refine g_isub (v := ((iN (p0 + 1)) - (iN (p0 + 1)))) P262 d1_210 rfl ?_
      refine g_iastore (i := xi) P262 d1_211 AX IX (by rw [List.length_map]; omega) gx fun T263 h263 P263 W263 AX => ?_
      rw [map_set'] at AX
      have K := K.wr W263 (Or.inl (by simp))
      have AT := AT.other W263 tx_
      refine g_iload P263 d1_212 rfl ?_
      refine g_ifNo P263 d1_214 (by decide) ?_
      refine g_aloadN P263 d1_217 rfl rfl ?_
      refine g_iload P263 d1_218 rfl ?_
      refine g_bipush (v := (34 : Int32)) P263 d1_220 (by rfl) ?_
      refine g_bastoreB (i := (p0 + 1)) (w := 34) P263 d1_222 AT (ix_iN (by omega)) (by simp only [List.length_map, List.length_set]; omega) ge (by decide) fun T264 h264 P264 W264 AT => ?_
      rw [map_set'] at AT
      have K := K.wr W264 (Or.inl (by simp))
      have AX := AX.other W264 xt
      refine g_iload P264 d1_223 rfl ?_
      refine g_iconst (v := (1 : Int32)) P264 d1_225 (by rfl) ?_
      refine g_iadd (v := (iN ((p0 + 1) + 1))) P264 d1_226 (iN_add _ 1) ?_
      refine g_istore P264 d1_227 #[.val (.ref tx), .val (.int (iN p0)), .val (.ref xp), .val (.int iv), .val (.int sh), .val (.int by_), .val (.int kv), .val (.int (1 : Int32)), .val (.int (0 : Int32)), .val (.int (1 : Int32)), .val (.int (0 : Int32)), .val (.int (iN ((p0 + 1) + 1))), .val (.int (iN (p0 + 1)))] rfl ?_
      refine g_iload P264 d1_229 rfl ?_
      exact g_retI P264 d1_231 (by decide) (by decide) ⟨_, p0 + 1, (p0 + 1), (p0 + 1) + 1, rfl, AT, by rw [List.length_set]; exact lt, hB.set (by decide), AX, Or.inl ⟨by rw [List.getElem?_set_ne (by omega)]; exact H34, rfl, HQ.congr (fun i hi => by rw [List.getElem?_set_ne (by omega)]), by rw [List.getElem?_set_self (by omega)], rfl⟩, by omega, fun i hi => by rw [List.getElem?_set_ne (by omega)]; exact LOW i hi, (Zc.sub (by omega) (Nat.le_refl _)).set (by omega), K⟩
  · refine g_istore P0 d1_10 #[.val (.ref tx), .val (.int (iN p0)), .val (.ref xp), .val (.int iv), .val (.int sh), .val (.int by_), .val (.int kv), .val (.int (1 : Int32)), .val (.int (1 : Int32)), .unset, .unset, .unset, .unset] rfl ?_
    refine g_iload P0 d1_12 rfl ?_
    refine g_bipush (v := (8 : Int32)) P0 d1_14 (by rfl) ?_
    refine g_iloadN P0 d1_16 rfl ?_
    refine g_iadd (v := ((8 : Int32) + iv)) P0 d1_17 rfl ?_
    refine g_iushr (v := (XT.ushr sh ((8 : Int32) + iv))) P0 d1_18 rfl ?_
    refine g_iconst (v := (1 : Int32)) P0 d1_19 (by rfl) ?_
    refine g_iand (v := ((XT.ushr sh ((8 : Int32) + iv)) &&& (1 : Int32))) P0 d1_20 rfl ?_
    by_cases hqu : ((XT.ushr sh ((8 : Int32) + iv)) &&& (1 : Int32)) = (0 : Int32)
    · refine g_ifYes P0 d1_21 ((if0 _ _).trans (teq hqu).1) 28 (by decide) (by decide) ?_
      refine g_iconst (v := (0 : Int32)) P0 d1_28 (by rfl) ?_
      refine g_istore P0 d1_29 #[.val (.ref tx), .val (.int (iN p0)), .val (.ref xp), .val (.int iv), .val (.int sh), .val (.int by_), .val (.int kv), .val (.int (1 : Int32)), .val (.int (1 : Int32)), .val (.int (0 : Int32)), .unset, .unset, .unset] rfl ?_
      refine g_iloadN P0 d1_31 rfl ?_
      refine g_iload P0 d1_32 rfl ?_
      refine g_iconst (v := (1 : Int32)) P0 d1_34 (by rfl) ?_
      refine g_isub (v := (kv - (1 : Int32))) P0 d1_35 rfl ?_
      refine g_icmpYes P0 d1_36 (feq hl).2 43 (by decide) (by decide) ?_
      refine g_iconst (v := (0 : Int32)) P0 d1_43 (by rfl) ?_
      refine g_istore P0 d1_44 #[.val (.ref tx), .val (.int (iN p0)), .val (.ref xp), .val (.int iv), .val (.int sh), .val (.int by_), .val (.int kv), .val (.int (1 : Int32)), .val (.int (1 : Int32)), .val (.int (0 : Int32)), .val (.int (0 : Int32)), .unset, .unset] rfl ?_
      refine g_iloadN P0 d1_46 rfl ?_
      refine g_istore P0 d1_47 #[.val (.ref tx), .val (.int (iN p0)), .val (.ref xp), .val (.int iv), .val (.int sh), .val (.int by_), .val (.int kv), .val (.int (1 : Int32)), .val (.int (1 : Int32)), .val (.int (0 : Int32)), .val (.int (0 : Int32)), .val (.int (iN p0)), .unset] rfl ?_
      refine g_iload P0 d1_49 rfl ?_
      refine g_ifYes P0 d1_51 (by decide) 66 (by decide) (by decide) ?_
      refine g_iload P0 d1_66 rfl ?_
      refine g_istore P0 d1_68 #[.val (.ref tx), .val (.int (iN p0)), .val (.ref xp), .val (.int iv), .val (.int sh), .val (.int by_), .val (.int kv), .val (.int (1 : Int32)), .val (.int (1 : Int32)), .val (.int (0 : Int32)), .val (.int (0 : Int32)), .val (.int (iN p0)), .val (.int (iN p0))] rfl ?_
      refine g_iload P0 d1_70 rfl ?_
      refine g_ifNo P0 d1_72 (by decide) ?_
      refine g_aloadN P0 d1_75 rfl rfl ?_
      refine g_iload P0 d1_76 rfl ?_
      refine g_iload P0 d1_78 rfl ?_
      refine g_bipush (v := (127 : Int32)) P0 d1_80 (by rfl) ?_
      refine g_iand (v := (by_ &&& (127 : Int32))) P0 d1_82 rfl ?_
      refine g_iload P0 d1_83 rfl ?_
      refine g_iload P0 d1_85 rfl ?_
      refine g_iconst (v := (1 : Int32)) P0 d1_87 (by rfl) ?_
      refine g_icmpNo P0 d1_88 (by decide) ?_
      refine g_iconst (v := (1 : Int32)) P0 d1_91 (by rfl) ?_
      refine g_goto P0 d1_92 96 (by decide) (by decide) ?_
      refine g_static P0 [(.ref tx), (.int (iN p0)), (.int (by_ &&& (127 : Int32))), (.int (0 : Int32)), (.int (1 : Int32))] (rest := []) (W := 0) d1_96 (hw _ (List.mem_of_getElem? (i := 78) rfl)) (hw _ (List.mem_of_getElem? (i := 79) rfl)) (hw _ (List.mem_of_getElem? (i := 4) rfl)) (hw _ (List.mem_of_getElem? (i := 80) rfl)) (by decide) (rm_putu1 l Z a0 hw _ n0 tx kt t p0 (by_ &&& (127 : Int32)) trivial AT (by first | omega | (simp only [List.length_set]; omega)) hB (m127 _) (by omega) ge) pd_7 rfl rfl rfl rfl (by decide) (by decide) (by decide) (by decide) fun v265 T265 h265 P265 q265 => ?_
      obtain ⟨d0, rfl, AT, x0, y0, z0, w0, v0, K'⟩ := q265
      have K := K.trans K' (fun x hx => Or.inl (by simp at hx; simp [hx]))
      have AX := AX.keep K' (ninS xt nin0)
      have hB0 := hB.set (i := p0) v0
      refine g_istore P265 d1_99 #[.val (.ref tx), .val (.int (iN p0)), .val (.ref xp), .val (.int iv), .val (.int sh), .val (.int by_), .val (.int kv), .val (.int (1 : Int32)), .val (.int (1 : Int32)), .val (.int (0 : Int32)), .val (.int (0 : Int32)), .val (.int (iN (p0 + 1))), .val (.int (iN p0))] rfl ?_
      refine g_iload P265 d1_101 rfl ?_
      refine g_iconst (v := (1 : Int32)) P265 d1_103 (by rfl) ?_
      refine g_icmpYes P265 d1_104 (by decide) 136 (by decide) (by decide) ?_
      refine g_iload P265 d1_136 rfl ?_
      refine g_iconst (v := (2 : Int32)) P265 d1_138 (by rfl) ?_
      refine g_icmpYes P265 d1_139 (by decide) 161 (by decide) (by decide) ?_
      refine g_iload P265 d1_161 rfl ?_
      refine g_ifYes P265 d1_163 (by decide) 204 (by decide) (by decide) ?_
      refine g_aloadN P265 d1_204 rfl rfl ?_
      refine g_iloadN P265 d1_205 rfl ?_
      refine g_iload P265 d1_206 rfl ?_
      refine g_iload P265 d1_208 rfl ?_
      refine g_isub (v := ((iN (p0 + 1)) - (iN p0))) P265 d1_210 rfl ?_
      have Zc : Zs (t.set p0 d0) (p0 + 1) 32 := ((hZ.sub (by omega) (Nat.le_refl _)).set (i := p0) (v := d0) (by omega))
      have hseg : PSeg (t.set p0 d0) p0 (p0 + 1) := (pseg_put (by rw [List.getElem?_set_self (by first | omega | (simp only [List.length_set]; omega))]) x0 y0 z0 (fun q => absurd q (w0 rfl)) PSeg.nil)
      have ltn : (t.set p0 d0).length = 32 := by first | omega | (simp only [List.length_set]; omega)
      refine g_iastore (i := xi) P265 d1_211 AX IX (by rw [List.length_map]; omega) gx fun T266 h266 P266 W266 AX => ?_
      rw [map_set'] at AX
      have K := K.wr W266 (Or.inl (by simp))
      have AT := AT.other W266 tx_
      refine g_iload P266 d1_212 rfl ?_
      refine g_ifYes P266 d1_214 (by decide) 229 (by decide) (by decide) ?_
      refine g_iload P266 d1_229 rfl ?_
      exact g_retI P266 d1_231 (by decide) (by decide) ⟨_, p0, (p0 + 1), (p0 + 1), rfl, AT, ltn, hB0, AX, Or.inr ⟨rfl, hseg, rfl⟩, by omega, fun i hi => by rw [List.getElem?_set_ne (by omega)], Zc, K⟩
    · refine g_ifNo P0 d1_21 ((if0 _ _).trans (feq hqu).1) ?_
      refine g_iconst (v := (1 : Int32)) P0 d1_24 (by rfl) ?_
      refine g_goto P0 d1_25 29 (by decide) (by decide) ?_
      refine g_istore P0 d1_29 #[.val (.ref tx), .val (.int (iN p0)), .val (.ref xp), .val (.int iv), .val (.int sh), .val (.int by_), .val (.int kv), .val (.int (1 : Int32)), .val (.int (1 : Int32)), .val (.int (1 : Int32)), .unset, .unset, .unset] rfl ?_
      refine g_iloadN P0 d1_31 rfl ?_
      refine g_iload P0 d1_32 rfl ?_
      refine g_iconst (v := (1 : Int32)) P0 d1_34 (by rfl) ?_
      refine g_isub (v := (kv - (1 : Int32))) P0 d1_35 rfl ?_
      refine g_icmpYes P0 d1_36 (feq hl).2 43 (by decide) (by decide) ?_
      refine g_iconst (v := (0 : Int32)) P0 d1_43 (by rfl) ?_
      refine g_istore P0 d1_44 #[.val (.ref tx), .val (.int (iN p0)), .val (.ref xp), .val (.int iv), .val (.int sh), .val (.int by_), .val (.int kv), .val (.int (1 : Int32)), .val (.int (1 : Int32)), .val (.int (1 : Int32)), .val (.int (0 : Int32)), .unset, .unset] rfl ?_
      refine g_iloadN P0 d1_46 rfl ?_
      refine g_istore P0 d1_47 #[.val (.ref tx), .val (.int (iN p0)), .val (.ref xp), .val (.int iv), .val (.int sh), .val (.int by_), .val (.int kv), .val (.int (1 : Int32)), .val (.int (1 : Int32)), .val (.int (1 : Int32)), .val (.int (0 : Int32)), .val (.int (iN p0)), .unset] rfl ?_
      refine g_iload P0 d1_49 rfl ?_
      refine g_ifNo P0 d1_51 (by decide) ?_
      refine g_aloadN P0 d1_54 rfl rfl ?_
      refine g_iload P0 d1_55 rfl ?_
      refine g_bipush (v := (34 : Int32)) P0 d1_57 (by rfl) ?_
      refine g_bastoreB (i := p0) (w := 34) P0 d1_59 AT (ix_iN (by omega)) (by simp only [List.length_map, List.length_set]; omega) ge (by decide) fun T267 h267 P267 W267 AT => ?_
      rw [map_set'] at AT
      have K := K.wr W267 (Or.inl (by simp))
      have AX := AX.other W267 xt
      obtain ⟨tc, htc⟩ : ∃ tc, tc = t.set p0 34 := ⟨_, rfl⟩
      rw [← htc] at AT
      have lt : tc.length = 32 := by rw [htc, List.length_set]; exact lt
      have hB : AllB tc := by rw [htc]; exact hB.set (by decide)
      have Zc : Zs tc (p0 + 1) 32 := by rw [htc]; exact (hZ.sub (by omega) (Nat.le_refl _)).set (by omega)
      have LOW : ∀ i, i < p0 → tc[i]? = t[i]? := fun i hi => by rw [htc, List.getElem?_set_ne (by omega)]
      have H34 : tc[p0]? = some 34 := by rw [htc, List.getElem?_set_self (by omega)]
      have HQ : QSeg tc (p0 + 1) (p0 + 1) := QSeg.nil
      refine g_iload P267 d1_60 rfl ?_
      refine g_iconst (v := (1 : Int32)) P267 d1_62 (by rfl) ?_
      refine g_iadd (v := (iN (p0 + 1))) P267 d1_63 (iN_add _ 1) ?_
      refine g_istore P267 d1_64 #[.val (.ref tx), .val (.int (iN p0)), .val (.ref xp), .val (.int iv), .val (.int sh), .val (.int by_), .val (.int kv), .val (.int (1 : Int32)), .val (.int (1 : Int32)), .val (.int (1 : Int32)), .val (.int (0 : Int32)), .val (.int (iN (p0 + 1))), .unset] rfl ?_
      refine g_iload P267 d1_66 rfl ?_
      refine g_istore P267 d1_68 #[.val (.ref tx), .val (.int (iN p0)), .val (.ref xp), .val (.int iv), .val (.int sh), .val (.int by_), .val (.int kv), .val (.int (1 : Int32)), .val (.int (1 : Int32)), .val (.int (1 : Int32)), .val (.int (0 : Int32)), .val (.int (iN (p0 + 1))), .val (.int (iN (p0 + 1)))] rfl ?_
      refine g_iload P267 d1_70 rfl ?_
      refine g_ifNo P267 d1_72 (by decide) ?_
      refine g_aloadN P267 d1_75 rfl rfl ?_
      refine g_iload P267 d1_76 rfl ?_
      refine g_iload P267 d1_78 rfl ?_
      refine g_bipush (v := (127 : Int32)) P267 d1_80 (by rfl) ?_
      refine g_iand (v := (by_ &&& (127 : Int32))) P267 d1_82 rfl ?_
      refine g_iload P267 d1_83 rfl ?_
      refine g_iload P267 d1_85 rfl ?_
      refine g_iconst (v := (1 : Int32)) P267 d1_87 (by rfl) ?_
      refine g_icmpNo P267 d1_88 (by decide) ?_
      refine g_iconst (v := (1 : Int32)) P267 d1_91 (by rfl) ?_
      refine g_goto P267 d1_92 96 (by decide) (by decide) ?_
      refine g_static P267 [(.ref tx), (.int (iN (p0 + 1))), (.int (by_ &&& (127 : Int32))), (.int (1 : Int32)), (.int (1 : Int32))] (rest := []) (W := 0) d1_96 (hw _ (List.mem_of_getElem? (i := 78) rfl)) (hw _ (List.mem_of_getElem? (i := 79) rfl)) (hw _ (List.mem_of_getElem? (i := 4) rfl)) (hw _ (List.mem_of_getElem? (i := 80) rfl)) (by decide) (rm_putq l Z a0 hw _ n0 tx kt tc (p0 + 1) (by_ &&& (127 : Int32)) (1 : Int32) trivial AT lt hB (m127 _) (by omega) ge) pd_7 rfl rfl rfl rfl (by decide) (by decide) (by decide) (by decide) fun v268 T268 h268 P268 q268 => ?_
      obtain ⟨t0, q0, rfl, AT, lt, ha0, hb0, hlow, hhigh, hQ, hB, K'⟩ := q268
      have K := K.trans K' (fun x hx => Or.inl (by simp at hx; simp [hx]))
      have AX := AX.keep K' (ninS xt nin0)
      have HQ := (HQ.congr hlow).trans hQ
      have Zc : Zs t0 q0 32 := fun i h1 h2 => (hhigh i h1).trans (Zc i (by omega) h2)
      have LOW : ∀ i, i < p0 → t0[i]? = t[i]? := fun i hi => (hlow i (by omega)).trans (LOW i hi)
      have H34 := (hlow p0 (by omega)).trans H34
      refine g_istore P268 d1_99 #[.val (.ref tx), .val (.int (iN p0)), .val (.ref xp), .val (.int iv), .val (.int sh), .val (.int by_), .val (.int kv), .val (.int (1 : Int32)), .val (.int (1 : Int32)), .val (.int (1 : Int32)), .val (.int (0 : Int32)), .val (.int (iN q0)), .val (.int (iN (p0 + 1)))] rfl ?_
      refine g_iload P268 d1_101 rfl ?_
      refine g_iconst (v := (1 : Int32)) P268 d1_103 (by rfl) ?_
      refine g_icmpYes P268 d1_104 (by decide) 136 (by decide) (by decide) ?_
      refine g_iload P268 d1_136 rfl ?_
      refine g_iconst (v := (2 : Int32)) P268 d1_138 (by rfl) ?_
      refine g_icmpYes P268 d1_139 (by decide) 161 (by decide) (by decide) ?_
      refine g_iload P268 d1_161 rfl ?_
      refine g_ifYes P268 d1_163 (by decide) 204 (by decide) (by decide) ?_
      refine g_aloadN P268 d1_204 rfl rfl ?_
      refine g_iloadN P268 d1_205 rfl ?_
      refine g_iload P268 d1_206 rfl ?_
      refine g_iload P268 d1_208 rfl ?_
      refine g_isub (v := ((iN q0) - (iN (p0 + 1)))) P268 d1_210 rfl ?_
      refine g_iastore (i := xi) P268 d1_211 AX IX (by rw [List.length_map]; omega) gx fun T269 h269 P269 W269 AX => ?_
      rw [map_set'] at AX
      have K := K.wr W269 (Or.inl (by simp))
      have AT := AT.other W269 tx_
      refine g_iload P269 d1_212 rfl ?_
      refine g_ifNo P269 d1_214 (by decide) ?_
      refine g_aloadN P269 d1_217 rfl rfl ?_
      refine g_iload P269 d1_218 rfl ?_
      refine g_bipush (v := (34 : Int32)) P269 d1_220 (by rfl) ?_
      refine g_bastoreB (i := q0) (w := 34) P269 d1_222 AT (ix_iN (by omega)) (by simp only [List.length_map, List.length_set]; omega) ge (by decide) fun T270 h270 P270 W270 AT => ?_
      rw [map_set'] at AT
      have K := K.wr W270 (Or.inl (by simp))
      have AX := AX.other W270 xt
      refine g_iload P270 d1_223 rfl ?_
      refine g_iconst (v := (1 : Int32)) P270 d1_225 (by rfl) ?_
      refine g_iadd (v := (iN (q0 + 1))) P270 d1_226 (iN_add _ 1) ?_
      refine g_istore P270 d1_227 #[.val (.ref tx), .val (.int (iN p0)), .val (.ref xp), .val (.int iv), .val (.int sh), .val (.int by_), .val (.int kv), .val (.int (1 : Int32)), .val (.int (1 : Int32)), .val (.int (1 : Int32)), .val (.int (0 : Int32)), .val (.int (iN (q0 + 1))), .val (.int (iN (p0 + 1)))] rfl ?_
      refine g_iload P270 d1_229 rfl ?_
      exact g_retI P270 d1_231 (by decide) (by decide) ⟨_, p0 + 1, q0, q0 + 1, rfl, AT, by rw [List.length_set]; exact lt, hB.set (by decide), AX, Or.inl ⟨by rw [List.getElem?_set_ne (by omega)]; exact H34, rfl, HQ.congr (fun i hi => by rw [List.getElem?_set_ne (by omega)]), by rw [List.getElem?_set_self (by omega)], rfl⟩, by omega, fun i hi => by rw [List.getElem?_set_ne (by omega)]; exact LOW i hi, (Zc.sub (by omega) (Nat.le_refl _)).set (by omega), K⟩
  · refine g_istore P0 d1_10 #[.val (.ref tx), .val (.int (iN p0)), .val (.ref xp), .val (.int iv), .val (.int sh), .val (.int by_), .val (.int kv), .val (.int (1 : Int32)), .val (.int (2 : Int32)), .unset, .unset, .unset, .unset] rfl ?_
    refine g_iload P0 d1_12 rfl ?_
    refine g_bipush (v := (8 : Int32)) P0 d1_14 (by rfl) ?_
    refine g_iloadN P0 d1_16 rfl ?_
    refine g_iadd (v := ((8 : Int32) + iv)) P0 d1_17 rfl ?_
    refine g_iushr (v := (XT.ushr sh ((8 : Int32) + iv))) P0 d1_18 rfl ?_
    refine g_iconst (v := (1 : Int32)) P0 d1_19 (by rfl) ?_
    refine g_iand (v := ((XT.ushr sh ((8 : Int32) + iv)) &&& (1 : Int32))) P0 d1_20 rfl ?_
    by_cases hqu : ((XT.ushr sh ((8 : Int32) + iv)) &&& (1 : Int32)) = (0 : Int32)
    · refine g_ifYes P0 d1_21 ((if0 _ _).trans (teq hqu).1) 28 (by decide) (by decide) ?_
      refine g_iconst (v := (0 : Int32)) P0 d1_28 (by rfl) ?_
      refine g_istore P0 d1_29 #[.val (.ref tx), .val (.int (iN p0)), .val (.ref xp), .val (.int iv), .val (.int sh), .val (.int by_), .val (.int kv), .val (.int (1 : Int32)), .val (.int (2 : Int32)), .val (.int (0 : Int32)), .unset, .unset, .unset] rfl ?_
      refine g_iloadN P0 d1_31 rfl ?_
      refine g_iload P0 d1_32 rfl ?_
      refine g_iconst (v := (1 : Int32)) P0 d1_34 (by rfl) ?_
      refine g_isub (v := (kv - (1 : Int32))) P0 d1_35 rfl ?_
      refine g_icmpYes P0 d1_36 (feq hl).2 43 (by decide) (by decide) ?_
      refine g_iconst (v := (0 : Int32)) P0 d1_43 (by rfl) ?_
      refine g_istore P0 d1_44 #[.val (.ref tx), .val (.int (iN p0)), .val (.ref xp), .val (.int iv), .val (.int sh), .val (.int by_), .val (.int kv), .val (.int (1 : Int32)), .val (.int (2 : Int32)), .val (.int (0 : Int32)), .val (.int (0 : Int32)), .unset, .unset] rfl ?_
      refine g_iloadN P0 d1_46 rfl ?_
      refine g_istore P0 d1_47 #[.val (.ref tx), .val (.int (iN p0)), .val (.ref xp), .val (.int iv), .val (.int sh), .val (.int by_), .val (.int kv), .val (.int (1 : Int32)), .val (.int (2 : Int32)), .val (.int (0 : Int32)), .val (.int (0 : Int32)), .val (.int (iN p0)), .unset] rfl ?_
      refine g_iload P0 d1_49 rfl ?_
      refine g_ifYes P0 d1_51 (by decide) 66 (by decide) (by decide) ?_
      refine g_iload P0 d1_66 rfl ?_
      refine g_istore P0 d1_68 #[.val (.ref tx), .val (.int (iN p0)), .val (.ref xp), .val (.int iv), .val (.int sh), .val (.int by_), .val (.int kv), .val (.int (1 : Int32)), .val (.int (2 : Int32)), .val (.int (0 : Int32)), .val (.int (0 : Int32)), .val (.int (iN p0)), .val (.int (iN p0))] rfl ?_
      refine g_iload P0 d1_70 rfl ?_
      refine g_ifNo P0 d1_72 (by decide) ?_
      refine g_aloadN P0 d1_75 rfl rfl ?_
      refine g_iload P0 d1_76 rfl ?_
      refine g_iload P0 d1_78 rfl ?_
      refine g_bipush (v := (127 : Int32)) P0 d1_80 (by rfl) ?_
      refine g_iand (v := (by_ &&& (127 : Int32))) P0 d1_82 rfl ?_
      refine g_iload P0 d1_83 rfl ?_
      refine g_iload P0 d1_85 rfl ?_
      refine g_iconst (v := (1 : Int32)) P0 d1_87 (by rfl) ?_
      refine g_icmpYes P0 d1_88 (by decide) 95 (by decide) (by decide) ?_
      refine g_iconst (v := (0 : Int32)) P0 d1_95 (by rfl) ?_
      refine g_static P0 [(.ref tx), (.int (iN p0)), (.int (by_ &&& (127 : Int32))), (.int (0 : Int32)), (.int (0 : Int32))] (rest := []) (W := 0) d1_96 (hw _ (List.mem_of_getElem? (i := 78) rfl)) (hw _ (List.mem_of_getElem? (i := 79) rfl)) (hw _ (List.mem_of_getElem? (i := 4) rfl)) (hw _ (List.mem_of_getElem? (i := 80) rfl)) (by decide) (rm_putu0 l Z a0 hw _ n0 tx kt t p0 (by_ &&& (127 : Int32)) trivial AT (by first | omega | (simp only [List.length_set]; omega)) hB (m127 _) (by omega) ge) pd_7 rfl rfl rfl rfl (by decide) (by decide) (by decide) (by decide) fun v271 T271 h271 P271 q271 => ?_
      obtain ⟨d0, rfl, AT, x0, y0, z0, w0, v0, K'⟩ := q271
      have K := K.trans K' (fun x hx => Or.inl (by simp at hx; simp [hx]))
      have AX := AX.keep K' (ninS xt nin0)
      have hB0 := hB.set (i := p0) v0
      refine g_istore P271 d1_99 #[.val (.ref tx), .val (.int (iN p0)), .val (.ref xp), .val (.int iv), .val (.int sh), .val (.int by_), .val (.int kv), .val (.int (1 : Int32)), .val (.int (2 : Int32)), .val (.int (0 : Int32)), .val (.int (0 : Int32)), .val (.int (iN (p0 + 1))), .val (.int (iN p0))] rfl ?_
      refine g_iload P271 d1_101 rfl ?_
      refine g_iconst (v := (1 : Int32)) P271 d1_103 (by rfl) ?_
      refine g_icmpNo P271 d1_104 (by decide) ?_
      refine g_aloadN P271 d1_107 rfl rfl ?_
      refine g_iload P271 d1_108 rfl ?_
      refine g_iload P271 d1_110 rfl ?_
      refine g_bipush (v := (8 : Int32)) P271 d1_112 (by rfl) ?_
      refine g_iushr (v := (XT.ushr by_ (8 : Int32))) P271 d1_114 rfl ?_
      refine g_bipush (v := (127 : Int32)) P271 d1_115 (by rfl) ?_
      refine g_iand (v := ((XT.ushr by_ (8 : Int32)) &&& (127 : Int32))) P271 d1_117 rfl ?_
      refine g_iload P271 d1_118 rfl ?_
      refine g_iload P271 d1_120 rfl ?_
      refine g_iconst (v := (2 : Int32)) P271 d1_122 (by rfl) ?_
      refine g_icmpNo P271 d1_123 (by decide) ?_
      refine g_iconst (v := (1 : Int32)) P271 d1_126 (by rfl) ?_
      refine g_goto P271 d1_127 131 (by decide) (by decide) ?_
      refine g_static P271 [(.ref tx), (.int (iN (p0 + 1))), (.int ((XT.ushr by_ (8 : Int32)) &&& (127 : Int32))), (.int (0 : Int32)), (.int (1 : Int32))] (rest := []) (W := 0) d1_131 (hw _ (List.mem_of_getElem? (i := 78) rfl)) (hw _ (List.mem_of_getElem? (i := 79) rfl)) (hw _ (List.mem_of_getElem? (i := 4) rfl)) (hw _ (List.mem_of_getElem? (i := 80) rfl)) (by decide) (rm_putu1 l Z a0 hw _ n0 tx kt (t.set p0 d0) (p0 + 1) ((XT.ushr by_ (8 : Int32)) &&& (127 : Int32)) trivial AT (by first | omega | (simp only [List.length_set]; omega)) hB0 (m127 _) (by omega) ge) pd_7 rfl rfl rfl rfl (by decide) (by decide) (by decide) (by decide) fun v272 T272 h272 P272 q272 => ?_
      obtain ⟨d1, rfl, AT, x1, y1, z1, w1, v1, K'⟩ := q272
      have K := K.trans K' (fun x hx => Or.inl (by simp at hx; simp [hx]))
      have AX := AX.keep K' (ninS xt nin0)
      have hB1 := hB0.set (i := (p0 + 1)) v1
      refine g_istore P272 d1_134 #[.val (.ref tx), .val (.int (iN p0)), .val (.ref xp), .val (.int iv), .val (.int sh), .val (.int by_), .val (.int kv), .val (.int (1 : Int32)), .val (.int (2 : Int32)), .val (.int (0 : Int32)), .val (.int (0 : Int32)), .val (.int (iN (p0 + 1 + 1))), .val (.int (iN p0))] rfl ?_
      refine g_iload P272 d1_136 rfl ?_
      refine g_iconst (v := (2 : Int32)) P272 d1_138 (by rfl) ?_
      refine g_icmpYes P272 d1_139 (by decide) 161 (by decide) (by decide) ?_
      refine g_iload P272 d1_161 rfl ?_
      refine g_ifYes P272 d1_163 (by decide) 204 (by decide) (by decide) ?_
      refine g_aloadN P272 d1_204 rfl rfl ?_
      refine g_iloadN P272 d1_205 rfl ?_
      refine g_iload P272 d1_206 rfl ?_
      refine g_iload P272 d1_208 rfl ?_
      refine g_isub (v := ((iN (p0 + 1 + 1)) - (iN p0))) P272 d1_210 rfl ?_
      have Zc : Zs ((t.set p0 d0).set (p0 + 1) d1) (p0 + 2) 32 := (((hZ.sub (by omega) (Nat.le_refl _)).set (i := p0) (v := d0) (by omega)).set (i := (p0 + 1)) (v := d1) (by omega))
      have hseg : PSeg ((t.set p0 d0).set (p0 + 1) d1) p0 (p0 + 2) := (pseg_put (by rw [List.getElem?_set_ne (by omega), List.getElem?_set_self (by first | omega | (simp only [List.length_set]; omega))]) x0 y0 z0 (fun _ => ⟨by omega, d1, (by rw [List.getElem?_set_self (by first | omega | (simp only [List.length_set]; omega))]), y1⟩) (pseg_put (by rw [List.getElem?_set_self (by first | omega | (simp only [List.length_set]; omega))]) x1 y1 z1 (fun q => absurd q (w1 rfl)) PSeg.nil))
      have ltn : ((t.set p0 d0).set (p0 + 1) d1).length = 32 := by first | omega | (simp only [List.length_set]; omega)
      refine g_iastore (i := xi) P272 d1_211 AX IX (by rw [List.length_map]; omega) gx fun T273 h273 P273 W273 AX => ?_
      rw [map_set'] at AX
      have K := K.wr W273 (Or.inl (by simp))
      have AT := AT.other W273 tx_
      refine g_iload P273 d1_212 rfl ?_
      refine g_ifYes P273 d1_214 (by decide) 229 (by decide) (by decide) ?_
      refine g_iload P273 d1_229 rfl ?_
      exact g_retI P273 d1_231 (by decide) (by decide) ⟨_, p0, (p0 + 2), (p0 + 2), rfl, AT, ltn, hB1, AX, Or.inr ⟨rfl, hseg, rfl⟩, by omega, fun i hi => by rw [List.getElem?_set_ne (by omega), List.getElem?_set_ne (by omega)], Zc, K⟩
    · refine g_ifNo P0 d1_21 ((if0 _ _).trans (feq hqu).1) ?_
      refine g_iconst (v := (1 : Int32)) P0 d1_24 (by rfl) ?_
      refine g_goto P0 d1_25 29 (by decide) (by decide) ?_
      refine g_istore P0 d1_29 #[.val (.ref tx), .val (.int (iN p0)), .val (.ref xp), .val (.int iv), .val (.int sh), .val (.int by_), .val (.int kv), .val (.int (1 : Int32)), .val (.int (2 : Int32)), .val (.int (1 : Int32)), .unset, .unset, .unset] rfl ?_
      refine g_iloadN P0 d1_31 rfl ?_
      refine g_iload P0 d1_32 rfl ?_
      refine g_iconst (v := (1 : Int32)) P0 d1_34 (by rfl) ?_
      refine g_isub (v := (kv - (1 : Int32))) P0 d1_35 rfl ?_
      refine g_icmpYes P0 d1_36 (feq hl).2 43 (by decide) (by decide) ?_
      refine g_iconst (v := (0 : Int32)) P0 d1_43 (by rfl) ?_
      refine g_istore P0 d1_44 #[.val (.ref tx), .val (.int (iN p0)), .val (.ref xp), .val (.int iv), .val (.int sh), .val (.int by_), .val (.int kv), .val (.int (1 : Int32)), .val (.int (2 : Int32)), .val (.int (1 : Int32)), .val (.int (0 : Int32)), .unset, .unset] rfl ?_
      refine g_iloadN P0 d1_46 rfl ?_
      refine g_istore P0 d1_47 #[.val (.ref tx), .val (.int (iN p0)), .val (.ref xp), .val (.int iv), .val (.int sh), .val (.int by_), .val (.int kv), .val (.int (1 : Int32)), .val (.int (2 : Int32)), .val (.int (1 : Int32)), .val (.int (0 : Int32)), .val (.int (iN p0)), .unset] rfl ?_
      refine g_iload P0 d1_49 rfl ?_
      refine g_ifNo P0 d1_51 (by decide) ?_
      refine g_aloadN P0 d1_54 rfl rfl ?_
      refine g_iload P0 d1_55 rfl ?_
      refine g_bipush (v := (34 : Int32)) P0 d1_57 (by rfl) ?_
      refine g_bastoreB (i := p0) (w := 34) P0 d1_59 AT (ix_iN (by omega)) (by simp only [List.length_map, List.length_set]; omega) ge (by decide) fun T274 h274 P274 W274 AT => ?_
      rw [map_set'] at AT
      have K := K.wr W274 (Or.inl (by simp))
      have AX := AX.other W274 xt
      obtain ⟨tc, htc⟩ : ∃ tc, tc = t.set p0 34 := ⟨_, rfl⟩
      rw [← htc] at AT
      have lt : tc.length = 32 := by rw [htc, List.length_set]; exact lt
      have hB : AllB tc := by rw [htc]; exact hB.set (by decide)
      have Zc : Zs tc (p0 + 1) 32 := by rw [htc]; exact (hZ.sub (by omega) (Nat.le_refl _)).set (by omega)
      have LOW : ∀ i, i < p0 → tc[i]? = t[i]? := fun i hi => by rw [htc, List.getElem?_set_ne (by omega)]
      have H34 : tc[p0]? = some 34 := by rw [htc, List.getElem?_set_self (by omega)]
      have HQ : QSeg tc (p0 + 1) (p0 + 1) := QSeg.nil
      refine g_iload P274 d1_60 rfl ?_
      refine g_iconst (v := (1 : Int32)) P274 d1_62 (by rfl) ?_
      refine g_iadd (v := (iN (p0 + 1))) P274 d1_63 (iN_add _ 1) ?_
      refine g_istore P274 d1_64 #[.val (.ref tx), .val (.int (iN p0)), .val (.ref xp), .val (.int iv), .val (.int sh), .val (.int by_), .val (.int kv), .val (.int (1 : Int32)), .val (.int (2 : Int32)), .val (.int (1 : Int32)), .val (.int (0 : Int32)), .val (.int (iN (p0 + 1))), .unset] rfl ?_
      refine g_iload P274 d1_66 rfl ?_
      refine g_istore P274 d1_68 #[.val (.ref tx), .val (.int (iN p0)), .val (.ref xp), .val (.int iv), .val (.int sh), .val (.int by_), .val (.int kv), .val (.int (1 : Int32)), .val (.int (2 : Int32)), .val (.int (1 : Int32)), .val (.int (0 : Int32)), .val (.int (iN (p0 + 1))), .val (.int (iN (p0 + 1)))] rfl ?_
      refine g_iload P274 d1_70 rfl ?_
      refine g_ifNo P274 d1_72 (by decide) ?_
      refine g_aloadN P274 d1_75 rfl rfl ?_
      refine g_iload P274 d1_76 rfl ?_
      refine g_iload P274 d1_78 rfl ?_
      refine g_bipush (v := (127 : Int32)) P274 d1_80 (by rfl) ?_
      refine g_iand (v := (by_ &&& (127 : Int32))) P274 d1_82 rfl ?_
      refine g_iload P274 d1_83 rfl ?_
      refine g_iload P274 d1_85 rfl ?_
      refine g_iconst (v := (1 : Int32)) P274 d1_87 (by rfl) ?_
      refine g_icmpYes P274 d1_88 (by decide) 95 (by decide) (by decide) ?_
      refine g_iconst (v := (0 : Int32)) P274 d1_95 (by rfl) ?_
      refine g_static P274 [(.ref tx), (.int (iN (p0 + 1))), (.int (by_ &&& (127 : Int32))), (.int (1 : Int32)), (.int (0 : Int32))] (rest := []) (W := 0) d1_96 (hw _ (List.mem_of_getElem? (i := 78) rfl)) (hw _ (List.mem_of_getElem? (i := 79) rfl)) (hw _ (List.mem_of_getElem? (i := 4) rfl)) (hw _ (List.mem_of_getElem? (i := 80) rfl)) (by decide) (rm_putq l Z a0 hw _ n0 tx kt tc (p0 + 1) (by_ &&& (127 : Int32)) (0 : Int32) trivial AT lt hB (m127 _) (by omega) ge) pd_7 rfl rfl rfl rfl (by decide) (by decide) (by decide) (by decide) fun v275 T275 h275 P275 q275 => ?_
      obtain ⟨t0, q0, rfl, AT, lt, ha0, hb0, hlow, hhigh, hQ, hB, K'⟩ := q275
      have K := K.trans K' (fun x hx => Or.inl (by simp at hx; simp [hx]))
      have AX := AX.keep K' (ninS xt nin0)
      have HQ := (HQ.congr hlow).trans hQ
      have Zc : Zs t0 q0 32 := fun i h1 h2 => (hhigh i h1).trans (Zc i (by omega) h2)
      have LOW : ∀ i, i < p0 → t0[i]? = t[i]? := fun i hi => (hlow i (by omega)).trans (LOW i hi)
      have H34 := (hlow p0 (by omega)).trans H34
      refine g_istore P275 d1_99 #[.val (.ref tx), .val (.int (iN p0)), .val (.ref xp), .val (.int iv), .val (.int sh), .val (.int by_), .val (.int kv), .val (.int (1 : Int32)), .val (.int (2 : Int32)), .val (.int (1 : Int32)), .val (.int (0 : Int32)), .val (.int (iN q0)), .val (.int (iN (p0 + 1)))] rfl ?_
      refine g_iload P275 d1_101 rfl ?_
      refine g_iconst (v := (1 : Int32)) P275 d1_103 (by rfl) ?_
      refine g_icmpNo P275 d1_104 (by decide) ?_
      refine g_aloadN P275 d1_107 rfl rfl ?_
      refine g_iload P275 d1_108 rfl ?_
      refine g_iload P275 d1_110 rfl ?_
      refine g_bipush (v := (8 : Int32)) P275 d1_112 (by rfl) ?_
      refine g_iushr (v := (XT.ushr by_ (8 : Int32))) P275 d1_114 rfl ?_
      refine g_bipush (v := (127 : Int32)) P275 d1_115 (by rfl) ?_
      refine g_iand (v := ((XT.ushr by_ (8 : Int32)) &&& (127 : Int32))) P275 d1_117 rfl ?_
      refine g_iload P275 d1_118 rfl ?_
      refine g_iload P275 d1_120 rfl ?_
      refine g_iconst (v := (2 : Int32)) P275 d1_122 (by rfl) ?_
      refine g_icmpNo P275 d1_123 (by decide) ?_
      refine g_iconst (v := (1 : Int32)) P275 d1_126 (by rfl) ?_
      refine g_goto P275 d1_127 131 (by decide) (by decide) ?_
      refine g_static P275 [(.ref tx), (.int (iN q0)), (.int ((XT.ushr by_ (8 : Int32)) &&& (127 : Int32))), (.int (1 : Int32)), (.int (1 : Int32))] (rest := []) (W := 0) d1_131 (hw _ (List.mem_of_getElem? (i := 78) rfl)) (hw _ (List.mem_of_getElem? (i := 79) rfl)) (hw _ (List.mem_of_getElem? (i := 4) rfl)) (hw _ (List.mem_of_getElem? (i := 80) rfl)) (by decide) (rm_putq l Z a0 hw _ n0 tx kt t0 q0 ((XT.ushr by_ (8 : Int32)) &&& (127 : Int32)) (1 : Int32) trivial AT lt hB (m127 _) (by omega) ge) pd_7 rfl rfl rfl rfl (by decide) (by decide) (by decide) (by decide) fun v276 T276 h276 P276 q276 => ?_
      obtain ⟨t1, q1, rfl, AT, lt, ha1, hb1, hlow, hhigh, hQ, hB, K'⟩ := q276
      have K := K.trans K' (fun x hx => Or.inl (by simp at hx; simp [hx]))
      have AX := AX.keep K' (ninS xt nin0)
      have HQ := (HQ.congr hlow).trans hQ
      have Zc : Zs t1 q1 32 := fun i h1 h2 => (hhigh i h1).trans (Zc i (by omega) h2)
      have LOW : ∀ i, i < p0 → t1[i]? = t[i]? := fun i hi => (hlow i (by omega)).trans (LOW i hi)
      have H34 := (hlow p0 (by omega)).trans H34
      refine g_istore P276 d1_134 #[.val (.ref tx), .val (.int (iN p0)), .val (.ref xp), .val (.int iv), .val (.int sh), .val (.int by_), .val (.int kv), .val (.int (1 : Int32)), .val (.int (2 : Int32)), .val (.int (1 : Int32)), .val (.int (0 : Int32)), .val (.int (iN q1)), .val (.int (iN (p0 + 1)))] rfl ?_
      refine g_iload P276 d1_136 rfl ?_
      refine g_iconst (v := (2 : Int32)) P276 d1_138 (by rfl) ?_
      refine g_icmpYes P276 d1_139 (by decide) 161 (by decide) (by decide) ?_
      refine g_iload P276 d1_161 rfl ?_
      refine g_ifYes P276 d1_163 (by decide) 204 (by decide) (by decide) ?_
      refine g_aloadN P276 d1_204 rfl rfl ?_
      refine g_iloadN P276 d1_205 rfl ?_
      refine g_iload P276 d1_206 rfl ?_
      refine g_iload P276 d1_208 rfl ?_
      refine g_isub (v := ((iN q1) - (iN (p0 + 1)))) P276 d1_210 rfl ?_
      refine g_iastore (i := xi) P276 d1_211 AX IX (by rw [List.length_map]; omega) gx fun T277 h277 P277 W277 AX => ?_
      rw [map_set'] at AX
      have K := K.wr W277 (Or.inl (by simp))
      have AT := AT.other W277 tx_
      refine g_iload P277 d1_212 rfl ?_
      refine g_ifNo P277 d1_214 (by decide) ?_
      refine g_aloadN P277 d1_217 rfl rfl ?_
      refine g_iload P277 d1_218 rfl ?_
      refine g_bipush (v := (34 : Int32)) P277 d1_220 (by rfl) ?_
      refine g_bastoreB (i := q1) (w := 34) P277 d1_222 AT (ix_iN (by omega)) (by simp only [List.length_map, List.length_set]; omega) ge (by decide) fun T278 h278 P278 W278 AT => ?_
      rw [map_set'] at AT
      have K := K.wr W278 (Or.inl (by simp))
      have AX := AX.other W278 xt
      refine g_iload P278 d1_223 rfl ?_
      refine g_iconst (v := (1 : Int32)) P278 d1_225 (by rfl) ?_
      refine g_iadd (v := (iN (q1 + 1))) P278 d1_226 (iN_add _ 1) ?_
      refine g_istore P278 d1_227 #[.val (.ref tx), .val (.int (iN p0)), .val (.ref xp), .val (.int iv), .val (.int sh), .val (.int by_), .val (.int kv), .val (.int (1 : Int32)), .val (.int (2 : Int32)), .val (.int (1 : Int32)), .val (.int (0 : Int32)), .val (.int (iN (q1 + 1))), .val (.int (iN (p0 + 1)))] rfl ?_
      refine g_iload P278 d1_229 rfl ?_
      exact g_retI P278 d1_231 (by decide) (by decide) ⟨_, p0 + 1, q1, q1 + 1, rfl, AT, by rw [List.length_set]; exact lt, hB.set (by decide), AX, Or.inl ⟨by rw [List.getElem?_set_ne (by omega)]; exact H34, rfl, HQ.congr (fun i hi => by rw [List.getElem?_set_ne (by omega)]), by rw [List.getElem?_set_self (by omega)], rfl⟩, by omega, fun i hi => by rw [List.getElem?_set_ne (by omega)]; exact LOW i hi, (Zc.sub (by omega) (Nat.le_refl _)).set (by omega), K⟩
  · refine g_istore P0 d1_10 #[.val (.ref tx), .val (.int (iN p0)), .val (.ref xp), .val (.int iv), .val (.int sh), .val (.int by_), .val (.int kv), .val (.int (1 : Int32)), .val (.int (3 : Int32)), .unset, .unset, .unset, .unset] rfl ?_
    refine g_iload P0 d1_12 rfl ?_
    refine g_bipush (v := (8 : Int32)) P0 d1_14 (by rfl) ?_
    refine g_iloadN P0 d1_16 rfl ?_
    refine g_iadd (v := ((8 : Int32) + iv)) P0 d1_17 rfl ?_
    refine g_iushr (v := (XT.ushr sh ((8 : Int32) + iv))) P0 d1_18 rfl ?_
    refine g_iconst (v := (1 : Int32)) P0 d1_19 (by rfl) ?_
    refine g_iand (v := ((XT.ushr sh ((8 : Int32) + iv)) &&& (1 : Int32))) P0 d1_20 rfl ?_
    by_cases hqu : ((XT.ushr sh ((8 : Int32) + iv)) &&& (1 : Int32)) = (0 : Int32)
    · refine g_ifYes P0 d1_21 ((if0 _ _).trans (teq hqu).1) 28 (by decide) (by decide) ?_
      refine g_iconst (v := (0 : Int32)) P0 d1_28 (by rfl) ?_
      refine g_istore P0 d1_29 #[.val (.ref tx), .val (.int (iN p0)), .val (.ref xp), .val (.int iv), .val (.int sh), .val (.int by_), .val (.int kv), .val (.int (1 : Int32)), .val (.int (3 : Int32)), .val (.int (0 : Int32)), .unset, .unset, .unset] rfl ?_
      refine g_iloadN P0 d1_31 rfl ?_
      refine g_iload P0 d1_32 rfl ?_
      refine g_iconst (v := (1 : Int32)) P0 d1_34 (by rfl) ?_
      refine g_isub (v := (kv - (1 : Int32))) P0 d1_35 rfl ?_
      refine g_icmpYes P0 d1_36 (feq hl).2 43 (by decide) (by decide) ?_
      refine g_iconst (v := (0 : Int32)) P0 d1_43 (by rfl) ?_
      refine g_istore P0 d1_44 #[.val (.ref tx), .val (.int (iN p0)), .val (.ref xp), .val (.int iv), .val (.int sh), .val (.int by_), .val (.int kv), .val (.int (1 : Int32)), .val (.int (3 : Int32)), .val (.int (0 : Int32)), .val (.int (0 : Int32)), .unset, .unset] rfl ?_
      refine g_iloadN P0 d1_46 rfl ?_
      refine g_istore P0 d1_47 #[.val (.ref tx), .val (.int (iN p0)), .val (.ref xp), .val (.int iv), .val (.int sh), .val (.int by_), .val (.int kv), .val (.int (1 : Int32)), .val (.int (3 : Int32)), .val (.int (0 : Int32)), .val (.int (0 : Int32)), .val (.int (iN p0)), .unset] rfl ?_
      refine g_iload P0 d1_49 rfl ?_
      refine g_ifYes P0 d1_51 (by decide) 66 (by decide) (by decide) ?_
      refine g_iload P0 d1_66 rfl ?_
      refine g_istore P0 d1_68 #[.val (.ref tx), .val (.int (iN p0)), .val (.ref xp), .val (.int iv), .val (.int sh), .val (.int by_), .val (.int kv), .val (.int (1 : Int32)), .val (.int (3 : Int32)), .val (.int (0 : Int32)), .val (.int (0 : Int32)), .val (.int (iN p0)), .val (.int (iN p0))] rfl ?_
      refine g_iload P0 d1_70 rfl ?_
      refine g_ifNo P0 d1_72 (by decide) ?_
      refine g_aloadN P0 d1_75 rfl rfl ?_
      refine g_iload P0 d1_76 rfl ?_
      refine g_iload P0 d1_78 rfl ?_
      refine g_bipush (v := (127 : Int32)) P0 d1_80 (by rfl) ?_
      refine g_iand (v := (by_ &&& (127 : Int32))) P0 d1_82 rfl ?_
      refine g_iload P0 d1_83 rfl ?_
      refine g_iload P0 d1_85 rfl ?_
      refine g_iconst (v := (1 : Int32)) P0 d1_87 (by rfl) ?_
      refine g_icmpYes P0 d1_88 (by decide) 95 (by decide) (by decide) ?_
      refine g_iconst (v := (0 : Int32)) P0 d1_95 (by rfl) ?_
      refine g_static P0 [(.ref tx), (.int (iN p0)), (.int (by_ &&& (127 : Int32))), (.int (0 : Int32)), (.int (0 : Int32))] (rest := []) (W := 0) d1_96 (hw _ (List.mem_of_getElem? (i := 78) rfl)) (hw _ (List.mem_of_getElem? (i := 79) rfl)) (hw _ (List.mem_of_getElem? (i := 4) rfl)) (hw _ (List.mem_of_getElem? (i := 80) rfl)) (by decide) (rm_putu0 l Z a0 hw _ n0 tx kt t p0 (by_ &&& (127 : Int32)) trivial AT (by first | omega | (simp only [List.length_set]; omega)) hB (m127 _) (by omega) ge) pd_7 rfl rfl rfl rfl (by decide) (by decide) (by decide) (by decide) fun v279 T279 h279 P279 q279 => ?_
      obtain ⟨d0, rfl, AT, x0, y0, z0, w0, v0, K'⟩ := q279
      have K := K.trans K' (fun x hx => Or.inl (by simp at hx; simp [hx]))
      have AX := AX.keep K' (ninS xt nin0)
      have hB0 := hB.set (i := p0) v0
      refine g_istore P279 d1_99 #[.val (.ref tx), .val (.int (iN p0)), .val (.ref xp), .val (.int iv), .val (.int sh), .val (.int by_), .val (.int kv), .val (.int (1 : Int32)), .val (.int (3 : Int32)), .val (.int (0 : Int32)), .val (.int (0 : Int32)), .val (.int (iN (p0 + 1))), .val (.int (iN p0))] rfl ?_
      refine g_iload P279 d1_101 rfl ?_
      refine g_iconst (v := (1 : Int32)) P279 d1_103 (by rfl) ?_
      refine g_icmpNo P279 d1_104 (by decide) ?_
      refine g_aloadN P279 d1_107 rfl rfl ?_
      refine g_iload P279 d1_108 rfl ?_
      refine g_iload P279 d1_110 rfl ?_
      refine g_bipush (v := (8 : Int32)) P279 d1_112 (by rfl) ?_
      refine g_iushr (v := (XT.ushr by_ (8 : Int32))) P279 d1_114 rfl ?_
      refine g_bipush (v := (127 : Int32)) P279 d1_115 (by rfl) ?_
      refine g_iand (v := ((XT.ushr by_ (8 : Int32)) &&& (127 : Int32))) P279 d1_117 rfl ?_
      refine g_iload P279 d1_118 rfl ?_
      refine g_iload P279 d1_120 rfl ?_
      refine g_iconst (v := (2 : Int32)) P279 d1_122 (by rfl) ?_
      refine g_icmpYes P279 d1_123 (by decide) 130 (by decide) (by decide) ?_
      refine g_iconst (v := (0 : Int32)) P279 d1_130 (by rfl) ?_
      refine g_static P279 [(.ref tx), (.int (iN (p0 + 1))), (.int ((XT.ushr by_ (8 : Int32)) &&& (127 : Int32))), (.int (0 : Int32)), (.int (0 : Int32))] (rest := []) (W := 0) d1_131 (hw _ (List.mem_of_getElem? (i := 78) rfl)) (hw _ (List.mem_of_getElem? (i := 79) rfl)) (hw _ (List.mem_of_getElem? (i := 4) rfl)) (hw _ (List.mem_of_getElem? (i := 80) rfl)) (by decide) (rm_putu0 l Z a0 hw _ n0 tx kt (t.set p0 d0) (p0 + 1) ((XT.ushr by_ (8 : Int32)) &&& (127 : Int32)) trivial AT (by first | omega | (simp only [List.length_set]; omega)) hB0 (m127 _) (by omega) ge) pd_7 rfl rfl rfl rfl (by decide) (by decide) (by decide) (by decide) fun v280 T280 h280 P280 q280 => ?_
      obtain ⟨d1, rfl, AT, x1, y1, z1, w1, v1, K'⟩ := q280
      have K := K.trans K' (fun x hx => Or.inl (by simp at hx; simp [hx]))
      have AX := AX.keep K' (ninS xt nin0)
      have hB1 := hB0.set (i := (p0 + 1)) v1
      refine g_istore P280 d1_134 #[.val (.ref tx), .val (.int (iN p0)), .val (.ref xp), .val (.int iv), .val (.int sh), .val (.int by_), .val (.int kv), .val (.int (1 : Int32)), .val (.int (3 : Int32)), .val (.int (0 : Int32)), .val (.int (0 : Int32)), .val (.int (iN (p0 + 1 + 1))), .val (.int (iN p0))] rfl ?_
      refine g_iload P280 d1_136 rfl ?_
      refine g_iconst (v := (2 : Int32)) P280 d1_138 (by rfl) ?_
      refine g_icmpNo P280 d1_139 (by decide) ?_
      refine g_aloadN P280 d1_142 rfl rfl ?_
      refine g_iload P280 d1_143 rfl ?_
      refine g_iload P280 d1_145 rfl ?_
      refine g_bipush (v := (16 : Int32)) P280 d1_147 (by rfl) ?_
      refine g_iushr (v := (XT.ushr by_ (16 : Int32))) P280 d1_149 rfl ?_
      refine g_bipush (v := (127 : Int32)) P280 d1_150 (by rfl) ?_
      refine g_iand (v := ((XT.ushr by_ (16 : Int32)) &&& (127 : Int32))) P280 d1_152 rfl ?_
      refine g_iload P280 d1_153 rfl ?_
      refine g_iconst (v := (1 : Int32)) P280 d1_155 (by rfl) ?_
      refine g_static P280 [(.ref tx), (.int (iN (p0 + 1 + 1))), (.int ((XT.ushr by_ (16 : Int32)) &&& (127 : Int32))), (.int (0 : Int32)), (.int (1 : Int32))] (rest := []) (W := 0) d1_156 (hw _ (List.mem_of_getElem? (i := 78) rfl)) (hw _ (List.mem_of_getElem? (i := 79) rfl)) (hw _ (List.mem_of_getElem? (i := 4) rfl)) (hw _ (List.mem_of_getElem? (i := 80) rfl)) (by decide) (rm_putu1 l Z a0 hw _ n0 tx kt ((t.set p0 d0).set (p0 + 1) d1) (p0 + 2) ((XT.ushr by_ (16 : Int32)) &&& (127 : Int32)) trivial AT (by first | omega | (simp only [List.length_set]; omega)) hB1 (m127 _) (by omega) ge) pd_7 rfl rfl rfl rfl (by decide) (by decide) (by decide) (by decide) fun v281 T281 h281 P281 q281 => ?_
      obtain ⟨d2, rfl, AT, x2, y2, z2, w2, v2, K'⟩ := q281
      have K := K.trans K' (fun x hx => Or.inl (by simp at hx; simp [hx]))
      have AX := AX.keep K' (ninS xt nin0)
      have hB2 := hB1.set (i := (p0 + 2)) v2
      refine g_istore P281 d1_159 #[.val (.ref tx), .val (.int (iN p0)), .val (.ref xp), .val (.int iv), .val (.int sh), .val (.int by_), .val (.int kv), .val (.int (1 : Int32)), .val (.int (3 : Int32)), .val (.int (0 : Int32)), .val (.int (0 : Int32)), .val (.int (iN (p0 + 2 + 1))), .val (.int (iN p0))] rfl ?_
      refine g_iload P281 d1_161 rfl ?_
      refine g_ifYes P281 d1_163 (by decide) 204 (by decide) (by decide) ?_
      refine g_aloadN P281 d1_204 rfl rfl ?_
      refine g_iloadN P281 d1_205 rfl ?_
      refine g_iload P281 d1_206 rfl ?_
      refine g_iload P281 d1_208 rfl ?_
      refine g_isub (v := ((iN (p0 + 2 + 1)) - (iN p0))) P281 d1_210 rfl ?_
      have Zc : Zs (((t.set p0 d0).set (p0 + 1) d1).set (p0 + 2) d2) (p0 + 3) 32 := ((((hZ.sub (by omega) (Nat.le_refl _)).set (i := p0) (v := d0) (by omega)).set (i := (p0 + 1)) (v := d1) (by omega)).set (i := (p0 + 2)) (v := d2) (by omega))
      have hseg : PSeg (((t.set p0 d0).set (p0 + 1) d1).set (p0 + 2) d2) p0 (p0 + 3) := (pseg_put (by rw [List.getElem?_set_ne (by omega), List.getElem?_set_ne (by omega), List.getElem?_set_self (by first | omega | (simp only [List.length_set]; omega))]) x0 y0 z0 (fun _ => ⟨by omega, d1, (by rw [List.getElem?_set_ne (by omega), List.getElem?_set_self (by first | omega | (simp only [List.length_set]; omega))]), y1⟩) (pseg_put (by rw [List.getElem?_set_ne (by omega), List.getElem?_set_self (by first | omega | (simp only [List.length_set]; omega))]) x1 y1 z1 (fun _ => ⟨by omega, d2, (by rw [List.getElem?_set_self (by first | omega | (simp only [List.length_set]; omega))]), y2⟩) (pseg_put (by rw [List.getElem?_set_self (by first | omega | (simp only [List.length_set]; omega))]) x2 y2 z2 (fun q => absurd q (w2 rfl)) PSeg.nil)))
      have ltn : (((t.set p0 d0).set (p0 + 1) d1).set (p0 + 2) d2).length = 32 := by first | omega | (simp only [List.length_set]; omega)
      refine g_iastore (i := xi) P281 d1_211 AX IX (by rw [List.length_map]; omega) gx fun T282 h282 P282 W282 AX => ?_
      rw [map_set'] at AX
      have K := K.wr W282 (Or.inl (by simp))
      have AT := AT.other W282 tx_
      refine g_iload P282 d1_212 rfl ?_
      refine g_ifYes P282 d1_214 (by decide) 229 (by decide) (by decide) ?_
      refine g_iload P282 d1_229 rfl ?_
      exact g_retI P282 d1_231 (by decide) (by decide) ⟨_, p0, (p0 + 3), (p0 + 3), rfl, AT, ltn, hB2, AX, Or.inr ⟨rfl, hseg, rfl⟩, by omega, fun i hi => by rw [List.getElem?_set_ne (by omega), List.getElem?_set_ne (by omega), List.getElem?_set_ne (by omega)], Zc, K⟩
    · refine g_ifNo P0 d1_21 ((if0 _ _).trans (feq hqu).1) ?_
      refine g_iconst (v := (1 : Int32)) P0 d1_24 (by rfl) ?_
      refine g_goto P0 d1_25 29 (by decide) (by decide) ?_
      refine g_istore P0 d1_29 #[.val (.ref tx), .val (.int (iN p0)), .val (.ref xp), .val (.int iv), .val (.int sh), .val (.int by_), .val (.int kv), .val (.int (1 : Int32)), .val (.int (3 : Int32)), .val (.int (1 : Int32)), .unset, .unset, .unset] rfl ?_
      refine g_iloadN P0 d1_31 rfl ?_
      refine g_iload P0 d1_32 rfl ?_
      refine g_iconst (v := (1 : Int32)) P0 d1_34 (by rfl) ?_
      refine g_isub (v := (kv - (1 : Int32))) P0 d1_35 rfl ?_
      refine g_icmpYes P0 d1_36 (feq hl).2 43 (by decide) (by decide) ?_
      refine g_iconst (v := (0 : Int32)) P0 d1_43 (by rfl) ?_
      refine g_istore P0 d1_44 #[.val (.ref tx), .val (.int (iN p0)), .val (.ref xp), .val (.int iv), .val (.int sh), .val (.int by_), .val (.int kv), .val (.int (1 : Int32)), .val (.int (3 : Int32)), .val (.int (1 : Int32)), .val (.int (0 : Int32)), .unset, .unset] rfl ?_
      refine g_iloadN P0 d1_46 rfl ?_
      refine g_istore P0 d1_47 #[.val (.ref tx), .val (.int (iN p0)), .val (.ref xp), .val (.int iv), .val (.int sh), .val (.int by_), .val (.int kv), .val (.int (1 : Int32)), .val (.int (3 : Int32)), .val (.int (1 : Int32)), .val (.int (0 : Int32)), .val (.int (iN p0)), .unset] rfl ?_
      refine g_iload P0 d1_49 rfl ?_
      refine g_ifNo P0 d1_51 (by decide) ?_
      refine g_aloadN P0 d1_54 rfl rfl ?_
      refine g_iload P0 d1_55 rfl ?_
      refine g_bipush (v := (34 : Int32)) P0 d1_57 (by rfl) ?_
      refine g_bastoreB (i := p0) (w := 34) P0 d1_59 AT (ix_iN (by omega)) (by simp only [List.length_map, List.length_set]; omega) ge (by decide) fun T283 h283 P283 W283 AT => ?_
      rw [map_set'] at AT
      have K := K.wr W283 (Or.inl (by simp))
      have AX := AX.other W283 xt
      obtain ⟨tc, htc⟩ : ∃ tc, tc = t.set p0 34 := ⟨_, rfl⟩
      rw [← htc] at AT
      have lt : tc.length = 32 := by rw [htc, List.length_set]; exact lt
      have hB : AllB tc := by rw [htc]; exact hB.set (by decide)
      have Zc : Zs tc (p0 + 1) 32 := by rw [htc]; exact (hZ.sub (by omega) (Nat.le_refl _)).set (by omega)
      have LOW : ∀ i, i < p0 → tc[i]? = t[i]? := fun i hi => by rw [htc, List.getElem?_set_ne (by omega)]
      have H34 : tc[p0]? = some 34 := by rw [htc, List.getElem?_set_self (by omega)]
      have HQ : QSeg tc (p0 + 1) (p0 + 1) := QSeg.nil
      refine g_iload P283 d1_60 rfl ?_
      refine g_iconst (v := (1 : Int32)) P283 d1_62 (by rfl) ?_
      refine g_iadd (v := (iN (p0 + 1))) P283 d1_63 (iN_add _ 1) ?_
      refine g_istore P283 d1_64 #[.val (.ref tx), .val (.int (iN p0)), .val (.ref xp), .val (.int iv), .val (.int sh), .val (.int by_), .val (.int kv), .val (.int (1 : Int32)), .val (.int (3 : Int32)), .val (.int (1 : Int32)), .val (.int (0 : Int32)), .val (.int (iN (p0 + 1))), .unset] rfl ?_
      refine g_iload P283 d1_66 rfl ?_
      refine g_istore P283 d1_68 #[.val (.ref tx), .val (.int (iN p0)), .val (.ref xp), .val (.int iv), .val (.int sh), .val (.int by_), .val (.int kv), .val (.int (1 : Int32)), .val (.int (3 : Int32)), .val (.int (1 : Int32)), .val (.int (0 : Int32)), .val (.int (iN (p0 + 1))), .val (.int (iN (p0 + 1)))] rfl ?_
      refine g_iload P283 d1_70 rfl ?_
      refine g_ifNo P283 d1_72 (by decide) ?_
      refine g_aloadN P283 d1_75 rfl rfl ?_
      refine g_iload P283 d1_76 rfl ?_
      refine g_iload P283 d1_78 rfl ?_
      refine g_bipush (v := (127 : Int32)) P283 d1_80 (by rfl) ?_
      refine g_iand (v := (by_ &&& (127 : Int32))) P283 d1_82 rfl ?_
      refine g_iload P283 d1_83 rfl ?_
      refine g_iload P283 d1_85 rfl ?_
      refine g_iconst (v := (1 : Int32)) P283 d1_87 (by rfl) ?_
      refine g_icmpYes P283 d1_88 (by decide) 95 (by decide) (by decide) ?_
      refine g_iconst (v := (0 : Int32)) P283 d1_95 (by rfl) ?_
      refine g_static P283 [(.ref tx), (.int (iN (p0 + 1))), (.int (by_ &&& (127 : Int32))), (.int (1 : Int32)), (.int (0 : Int32))] (rest := []) (W := 0) d1_96 (hw _ (List.mem_of_getElem? (i := 78) rfl)) (hw _ (List.mem_of_getElem? (i := 79) rfl)) (hw _ (List.mem_of_getElem? (i := 4) rfl)) (hw _ (List.mem_of_getElem? (i := 80) rfl)) (by decide) (rm_putq l Z a0 hw _ n0 tx kt tc (p0 + 1) (by_ &&& (127 : Int32)) (0 : Int32) trivial AT lt hB (m127 _) (by omega) ge) pd_7 rfl rfl rfl rfl (by decide) (by decide) (by decide) (by decide) fun v284 T284 h284 P284 q284 => ?_
      obtain ⟨t0, q0, rfl, AT, lt, ha0, hb0, hlow, hhigh, hQ, hB, K'⟩ := q284
      have K := K.trans K' (fun x hx => Or.inl (by simp at hx; simp [hx]))
      have AX := AX.keep K' (ninS xt nin0)
      have HQ := (HQ.congr hlow).trans hQ
      have Zc : Zs t0 q0 32 := fun i h1 h2 => (hhigh i h1).trans (Zc i (by omega) h2)
      have LOW : ∀ i, i < p0 → t0[i]? = t[i]? := fun i hi => (hlow i (by omega)).trans (LOW i hi)
      have H34 := (hlow p0 (by omega)).trans H34
      refine g_istore P284 d1_99 #[.val (.ref tx), .val (.int (iN p0)), .val (.ref xp), .val (.int iv), .val (.int sh), .val (.int by_), .val (.int kv), .val (.int (1 : Int32)), .val (.int (3 : Int32)), .val (.int (1 : Int32)), .val (.int (0 : Int32)), .val (.int (iN q0)), .val (.int (iN (p0 + 1)))] rfl ?_
      refine g_iload P284 d1_101 rfl ?_
      refine g_iconst (v := (1 : Int32)) P284 d1_103 (by rfl) ?_
      refine g_icmpNo P284 d1_104 (by decide) ?_
      refine g_aloadN P284 d1_107 rfl rfl ?_
      refine g_iload P284 d1_108 rfl ?_
      refine g_iload P284 d1_110 rfl ?_
      refine g_bipush (v := (8 : Int32)) P284 d1_112 (by rfl) ?_
      refine g_iushr (v := (XT.ushr by_ (8 : Int32))) P284 d1_114 rfl ?_
      refine g_bipush (v := (127 : Int32)) P284 d1_115 (by rfl) ?_
      refine g_iand (v := ((XT.ushr by_ (8 : Int32)) &&& (127 : Int32))) P284 d1_117 rfl ?_
      refine g_iload P284 d1_118 rfl ?_
      refine g_iload P284 d1_120 rfl ?_
      refine g_iconst (v := (2 : Int32)) P284 d1_122 (by rfl) ?_
      refine g_icmpYes P284 d1_123 (by decide) 130 (by decide) (by decide) ?_
      refine g_iconst (v := (0 : Int32)) P284 d1_130 (by rfl) ?_
      refine g_static P284 [(.ref tx), (.int (iN q0)), (.int ((XT.ushr by_ (8 : Int32)) &&& (127 : Int32))), (.int (1 : Int32)), (.int (0 : Int32))] (rest := []) (W := 0) d1_131 (hw _ (List.mem_of_getElem? (i := 78) rfl)) (hw _ (List.mem_of_getElem? (i := 79) rfl)) (hw _ (List.mem_of_getElem? (i := 4) rfl)) (hw _ (List.mem_of_getElem? (i := 80) rfl)) (by decide) (rm_putq l Z a0 hw _ n0 tx kt t0 q0 ((XT.ushr by_ (8 : Int32)) &&& (127 : Int32)) (0 : Int32) trivial AT lt hB (m127 _) (by omega) ge) pd_7 rfl rfl rfl rfl (by decide) (by decide) (by decide) (by decide) fun v285 T285 h285 P285 q285 => ?_
      obtain ⟨t1, q1, rfl, AT, lt, ha1, hb1, hlow, hhigh, hQ, hB, K'⟩ := q285
      have K := K.trans K' (fun x hx => Or.inl (by simp at hx; simp [hx]))
      have AX := AX.keep K' (ninS xt nin0)
      have HQ := (HQ.congr hlow).trans hQ
      have Zc : Zs t1 q1 32 := fun i h1 h2 => (hhigh i h1).trans (Zc i (by omega) h2)
      have LOW : ∀ i, i < p0 → t1[i]? = t[i]? := fun i hi => (hlow i (by omega)).trans (LOW i hi)
      have H34 := (hlow p0 (by omega)).trans H34
      refine g_istore P285 d1_134 #[.val (.ref tx), .val (.int (iN p0)), .val (.ref xp), .val (.int iv), .val (.int sh), .val (.int by_), .val (.int kv), .val (.int (1 : Int32)), .val (.int (3 : Int32)), .val (.int (1 : Int32)), .val (.int (0 : Int32)), .val (.int (iN q1)), .val (.int (iN (p0 + 1)))] rfl ?_
      refine g_iload P285 d1_136 rfl ?_
      refine g_iconst (v := (2 : Int32)) P285 d1_138 (by rfl) ?_
      refine g_icmpNo P285 d1_139 (by decide) ?_
      refine g_aloadN P285 d1_142 rfl rfl ?_
      refine g_iload P285 d1_143 rfl ?_
      refine g_iload P285 d1_145 rfl ?_
      refine g_bipush (v := (16 : Int32)) P285 d1_147 (by rfl) ?_
      refine g_iushr (v := (XT.ushr by_ (16 : Int32))) P285 d1_149 rfl ?_
      refine g_bipush (v := (127 : Int32)) P285 d1_150 (by rfl) ?_
      refine g_iand (v := ((XT.ushr by_ (16 : Int32)) &&& (127 : Int32))) P285 d1_152 rfl ?_
      refine g_iload P285 d1_153 rfl ?_
      refine g_iconst (v := (1 : Int32)) P285 d1_155 (by rfl) ?_
      refine g_static P285 [(.ref tx), (.int (iN q1)), (.int ((XT.ushr by_ (16 : Int32)) &&& (127 : Int32))), (.int (1 : Int32)), (.int (1 : Int32))] (rest := []) (W := 0) d1_156 (hw _ (List.mem_of_getElem? (i := 78) rfl)) (hw _ (List.mem_of_getElem? (i := 79) rfl)) (hw _ (List.mem_of_getElem? (i := 4) rfl)) (hw _ (List.mem_of_getElem? (i := 80) rfl)) (by decide) (rm_putq l Z a0 hw _ n0 tx kt t1 q1 ((XT.ushr by_ (16 : Int32)) &&& (127 : Int32)) (1 : Int32) trivial AT lt hB (m127 _) (by omega) ge) pd_7 rfl rfl rfl rfl (by decide) (by decide) (by decide) (by decide) fun v286 T286 h286 P286 q286 => ?_
      obtain ⟨t2, q2, rfl, AT, lt, ha2, hb2, hlow, hhigh, hQ, hB, K'⟩ := q286
      have K := K.trans K' (fun x hx => Or.inl (by simp at hx; simp [hx]))
      have AX := AX.keep K' (ninS xt nin0)
      have HQ := (HQ.congr hlow).trans hQ
      have Zc : Zs t2 q2 32 := fun i h1 h2 => (hhigh i h1).trans (Zc i (by omega) h2)
      have LOW : ∀ i, i < p0 → t2[i]? = t[i]? := fun i hi => (hlow i (by omega)).trans (LOW i hi)
      have H34 := (hlow p0 (by omega)).trans H34
      refine g_istore P286 d1_159 #[.val (.ref tx), .val (.int (iN p0)), .val (.ref xp), .val (.int iv), .val (.int sh), .val (.int by_), .val (.int kv), .val (.int (1 : Int32)), .val (.int (3 : Int32)), .val (.int (1 : Int32)), .val (.int (0 : Int32)), .val (.int (iN q2)), .val (.int (iN (p0 + 1)))] rfl ?_
      refine g_iload P286 d1_161 rfl ?_
      refine g_ifYes P286 d1_163 (by decide) 204 (by decide) (by decide) ?_
      refine g_aloadN P286 d1_204 rfl rfl ?_
      refine g_iloadN P286 d1_205 rfl ?_
      refine g_iload P286 d1_206 rfl ?_
      refine g_iload P286 d1_208 rfl ?_
      refine g_isub (v := ((iN q2) - (iN (p0 + 1)))) P286 d1_210 rfl ?_
      refine g_iastore (i := xi) P286 d1_211 AX IX (by rw [List.length_map]; omega) gx fun T287 h287 P287 W287 AX => ?_
      rw [map_set'] at AX
      have K := K.wr W287 (Or.inl (by simp))
      have AT := AT.other W287 tx_
      refine g_iload P287 d1_212 rfl ?_
      refine g_ifNo P287 d1_214 (by decide) ?_
      refine g_aloadN P287 d1_217 rfl rfl ?_
      refine g_iload P287 d1_218 rfl ?_
      refine g_bipush (v := (34 : Int32)) P287 d1_220 (by rfl) ?_
      refine g_bastoreB (i := q2) (w := 34) P287 d1_222 AT (ix_iN (by omega)) (by simp only [List.length_map, List.length_set]; omega) ge (by decide) fun T288 h288 P288 W288 AT => ?_
      rw [map_set'] at AT
      have K := K.wr W288 (Or.inl (by simp))
      have AX := AX.other W288 xt
      refine g_iload P288 d1_223 rfl ?_
      refine g_iconst (v := (1 : Int32)) P288 d1_225 (by rfl) ?_
      refine g_iadd (v := (iN (q2 + 1))) P288 d1_226 (iN_add _ 1) ?_
      refine g_istore P288 d1_227 #[.val (.ref tx), .val (.int (iN p0)), .val (.ref xp), .val (.int iv), .val (.int sh), .val (.int by_), .val (.int kv), .val (.int (1 : Int32)), .val (.int (3 : Int32)), .val (.int (1 : Int32)), .val (.int (0 : Int32)), .val (.int (iN (q2 + 1))), .val (.int (iN (p0 + 1)))] rfl ?_
      refine g_iload P288 d1_229 rfl ?_
      exact g_retI P288 d1_231 (by decide) (by decide) ⟨_, p0 + 1, q2, q2 + 1, rfl, AT, by rw [List.length_set]; exact lt, hB.set (by decide), AX, Or.inl ⟨by rw [List.getElem?_set_ne (by omega)]; exact H34, rfl, HQ.congr (fun i hi => by rw [List.getElem?_set_ne (by omega)]), by rw [List.getElem?_set_self (by omega)], rfl⟩, by omega, fun i hi => by rw [List.getElem?_set_ne (by omega)]; exact LOW i hi, (Zc.sub (by omega) (Nat.le_refl _)).set (by omega), K⟩
set_option maxRecDepth 65536 in
set_option maxHeartbeats 40000000 in
theorem rm_field_end (l : Launch) (Z : State) (a0 : Array Value) (hw : ∀ d ∈ tables_1, d.before a0 Z = true) (h0 : Heap) (n0 : Nat) (tx xp : Addr) (kt kx : ClassId) (t xs : List Int32) (p0 xi : Nat) (iv sh by_ kv : Int32) (AT : AL Z h0 tx kt .byte (t.map .int)) (lt : t.length = 32) (hB : AllB t) (hZ : Zs t p0 32) (hp : p0 ≤ 20) (AX : AL Z h0 xp kx .int (xs.map .int)) (IX : Ix iv xi) (hxi : xi < xs.length) (ge : n0 ≤ tx) (gx : n0 ≤ xp) (xt : xp ≠ tx) (tx_ : tx ≠ xp) (hl : iv = kv - (1 : Int32)) :
    Met l Z (⟨"com/example/lintel/lintel/io/CsvReaderLengthPinLaw", "field", "([BI[IIIIIZ)I"⟩ : MethodName) method_3_code 13 (some .int) ({ frames := 1, cells := 0, slots := 0, locals := 20 } : Room) n0 #[(.ref tx), (.int (iN p0)), (.ref xp), (.int iv), (.int sh), (.int by_), (.int kv), (.int (1 : Int32))] h0 (fun v h => ∃ t' s0 e0, v = some (.int (iN 32)) ∧ AL Z h tx kt .byte (t'.map .int) ∧ t'.length = 32 ∧ AllB t' ∧ AL Z h xp kx .int ((xs.set xi (iN e0 - iN s0)).map .int) ∧ FieldAt t' p0 s0 e0 32 ∧ (∀ i, i < p0 → t'[i]? = t[i]?) ∧ Keep h0 h [tx, xp]) := by
  refine Met.intro (by decide +kernel) ?_
  intro p e s m below meth cc T0 P0
  refine Go.cast (g' := mkF m 0 #[.val (.ref tx), .val (.int (iN p0)), .val (.ref xp), .val (.int iv), .val (.int sh), .val (.int by_), .val (.int kv), .val (.int (1 : Int32)), .unset, .unset, .unset, .unset, .unset] []) (by first | (simp [entryFrame, mkF, argsToLocals, Value.category, maxLocals]; done) | rfl) ?_
  have K : Keep h0 h0 [tx, xp] := Keep.refl _ _
  have LOW : ∀ i, i < p0 → t[i]? = t[i]? := fun _ _ => rfl
  refine g_iload P0 d1_0 rfl ?_
  refine g_iconst (v := (2 : Int32)) P0 d1_2 (by rfl) ?_
  refine g_iconst (v := (2 : Int32)) P0 d1_3 (by rfl) ?_
  refine g_iloadN P0 d1_4 rfl ?_
  refine g_imul (v := ((2 : Int32) * iv)) P0 d1_5 rfl ?_
  refine g_iadd (v := ((2 : Int32) + ((2 : Int32) * iv))) P0 d1_6 rfl ?_
  refine g_iushr (v := (XT.ushr sh ((2 : Int32) + ((2 : Int32) * iv)))) P0 d1_7 rfl ?_
  refine g_iconst (v := (3 : Int32)) P0 d1_8 (by rfl) ?_
  refine g_iand (v := ((XT.ushr sh ((2 : Int32) + ((2 : Int32) * iv))) &&& (3 : Int32))) P0 d1_9 rfl ?_
  have hn := m3 ((XT.ushr sh ((2 : Int32) + ((2 : Int32) * iv))))
  generalize ((XT.ushr sh ((2 : Int32) + ((2 : Int32) * iv))) &&& (3 : Int32)) = nn at hn ⊢
  rcases hn with rfl | rfl | rfl | rfl
  · refine g_istore P0 d1_10 #[.val (.ref tx), .val (.int (iN p0)), .val (.ref xp), .val (.int iv), .val (.int sh), .val (.int by_), .val (.int kv), .val (.int (1 : Int32)), .val (.int (0 : Int32)), .unset, .unset, .unset, .unset] rfl ?_
    refine g_iload P0 d1_12 rfl ?_
    refine g_bipush (v := (8 : Int32)) P0 d1_14 (by rfl) ?_
    refine g_iloadN P0 d1_16 rfl ?_
    refine g_iadd (v := ((8 : Int32) + iv)) P0 d1_17 rfl ?_
    refine g_iushr (v := (XT.ushr sh ((8 : Int32) + iv))) P0 d1_18 rfl ?_
    refine g_iconst (v := (1 : Int32)) P0 d1_19 (by rfl) ?_
    refine g_iand (v := ((XT.ushr sh ((8 : Int32) + iv)) &&& (1 : Int32))) P0 d1_20 rfl ?_
    by_cases hqu : ((XT.ushr sh ((8 : Int32) + iv)) &&& (1 : Int32)) = (0 : Int32)
    · refine g_ifYes P0 d1_21 ((if0 _ _).trans (teq hqu).1) 28 (by decide) (by decide) ?_
      refine g_iconst (v := (0 : Int32)) P0 d1_28 (by rfl) ?_
      refine g_istore P0 d1_29 #[.val (.ref tx), .val (.int (iN p0)), .val (.ref xp), .val (.int iv), .val (.int sh), .val (.int by_), .val (.int kv), .val (.int (1 : Int32)), .val (.int (0 : Int32)), .val (.int (0 : Int32)), .unset, .unset, .unset] rfl ?_
      refine g_iloadN P0 d1_31 rfl ?_
      refine g_iload P0 d1_32 rfl ?_
      refine g_iconst (v := (1 : Int32)) P0 d1_34 (by rfl) ?_
      refine g_isub (v := (kv - (1 : Int32))) P0 d1_35 rfl ?_
      refine g_icmpNo P0 d1_36 (teq hl).2 ?_
      refine g_iconst (v := (1 : Int32)) P0 d1_39 (by rfl) ?_
      refine g_goto P0 d1_40 44 (by decide) (by decide) ?_
      refine g_istore P0 d1_44 #[.val (.ref tx), .val (.int (iN p0)), .val (.ref xp), .val (.int iv), .val (.int sh), .val (.int by_), .val (.int kv), .val (.int (1 : Int32)), .val (.int (0 : Int32)), .val (.int (0 : Int32)), .val (.int (1 : Int32)), .unset, .unset] rfl ?_
      refine g_iloadN P0 d1_46 rfl ?_
      refine g_istore P0 d1_47 #[.val (.ref tx), .val (.int (iN p0)), .val (.ref xp), .val (.int iv), .val (.int sh), .val (.int by_), .val (.int kv), .val (.int (1 : Int32)), .val (.int (0 : Int32)), .val (.int (0 : Int32)), .val (.int (1 : Int32)), .val (.int (iN p0)), .unset] rfl ?_
      refine g_iload P0 d1_49 rfl ?_
      refine g_ifYes P0 d1_51 (by decide) 66 (by decide) (by decide) ?_
      refine g_iload P0 d1_66 rfl ?_
      refine g_istore P0 d1_68 #[.val (.ref tx), .val (.int (iN p0)), .val (.ref xp), .val (.int iv), .val (.int sh), .val (.int by_), .val (.int kv), .val (.int (1 : Int32)), .val (.int (0 : Int32)), .val (.int (0 : Int32)), .val (.int (1 : Int32)), .val (.int (iN p0)), .val (.int (iN p0))] rfl ?_
      refine g_iload P0 d1_70 rfl ?_
      refine g_ifYes P0 d1_72 (by decide) 101 (by decide) (by decide) ?_
      refine g_iload P0 d1_101 rfl ?_
      refine g_iconst (v := (1 : Int32)) P0 d1_103 (by rfl) ?_
      refine g_icmpYes P0 d1_104 (by decide) 136 (by decide) (by decide) ?_
      refine g_iload P0 d1_136 rfl ?_
      refine g_iconst (v := (2 : Int32)) P0 d1_138 (by rfl) ?_
      refine g_icmpYes P0 d1_139 (by decide) 161 (by decide) (by decide) ?_
      refine g_iload P0 d1_161 rfl ?_
      refine g_ifNo P0 d1_163 (by decide) ?_
      refine g_iload P0 d1_166 rfl ?_
      refine g_ifNo P0 d1_168 (by decide) ?_
      refine g_iload P0 d1_171 rfl ?_
      refine g_ifYes P0 d1_173 (by decide) 193 (by decide) (by decide) ?_
      refine g_aloadN P0 d1_193 rfl rfl ?_
      refine g_iloadN P0 d1_194 rfl ?_
      refine g_bipush (v := (32 : Int32)) P0 d1_195 (by rfl) ?_
      refine g_iload P0 d1_197 rfl ?_
      refine g_isub (v := ((32 : Int32) - (iN p0))) P0 d1_199 rfl ?_
      have hseg : PSeg t p0 32 := (zs_p hZ (by omega))
      have ltn : t.length = 32 := by first | omega | (simp only [List.length_set]; omega)
      refine g_iastore (i := xi) P0 d1_200 AX IX (by rw [List.length_map]; omega) gx fun T289 h289 P289 W289 AX => ?_
      rw [map_set'] at AX
      have K := K.wr W289 (Or.inl (by simp))
      have AT := AT.other W289 tx_
      refine g_bipush (v := (32 : Int32)) P289 d1_201 (by rfl) ?_
      exact g_retI P289 d1_203 (by decide) (by decide) ⟨_, p0, 32, rfl, AT, ltn, hB, AX, Or.inr ⟨rfl, hseg, rfl⟩, fun i hi => rfl, K⟩
    · refine g_ifNo P0 d1_21 ((if0 _ _).trans (feq hqu).1) ?_
      refine g_iconst (v := (1 : Int32)) P0 d1_24 (by rfl) ?_
      refine g_goto P0 d1_25 29 (by decide) (by decide) ?_
      refine g_istore P0 d1_29 #[.val (.ref tx), .val (.int (iN p0)), .val (.ref xp), .val (.int iv), .val (.int sh), .val (.int by_), .val (.int kv), .val (.int (1 : Int32)), .val (.int (0 : Int32)), .val (.int (1 : Int32)), .unset, .unset, .unset] rfl ?_
      refine g_iloadN P0 d1_31 rfl ?_
      refine g_iload P0 d1_32 rfl ?_
      refine g_iconst (v := (1 : Int32)) P0 d1_34 (by rfl) ?_
      refine g_isub (v := (kv - (1 : Int32))) P0 d1_35 rfl ?_
      refine g_icmpNo P0 d1_36 (teq hl).2 ?_
      refine g_iconst (v := (1 : Int32)) P0 d1_39 (by rfl) ?_
      refine g_goto P0 d1_40 44 (by decide) (by decide) ?_
      refine g_istore P0 d1_44 #[.val (.ref tx), .val (.int (iN p0)), .val (.ref xp), .val (.int iv), .val (.int sh), .val (.int by_), .val (.int kv), .val (.int (1 : Int32)), .val (.int (0 : Int32)), .val (.int (1 : Int32)), .val (.int (1 : Int32)), .unset, .unset] rfl ?_
      refine g_iloadN P0 d1_46 rfl ?_
      refine g_istore P0 d1_47 #[.val (.ref tx), .val (.int (iN p0)), .val (.ref xp), .val (.int iv), .val (.int sh), .val (.int by_), .val (.int kv), .val (.int (1 : Int32)), .val (.int (0 : Int32)), .val (.int (1 : Int32)), .val (.int (1 : Int32)), .val (.int (iN p0)), .unset] rfl ?_
      refine g_iload P0 d1_49 rfl ?_
      refine g_ifNo P0 d1_51 (by decide) ?_
      refine g_aloadN P0 d1_54 rfl rfl ?_
      refine g_iload P0 d1_55 rfl ?_
      refine g_bipush (v := (34 : Int32)) P0 d1_57 (by rfl) ?_
      refine g_bastoreB (i := p0) (w := 34) P0 d1_59 AT (ix_iN (by omega)) (by simp only [List.length_map, List.length_set]; omega) ge (by decide) fun T290 h290 P290 W290 AT => ?_
      rw [map_set'] at AT
      have K := K.wr W290 (Or.inl (by simp))
      have AX := AX.other W290 xt
      obtain ⟨tc, htc⟩ : ∃ tc, tc = t.set p0 34 := ⟨_, rfl⟩
      rw [← htc] at AT
      have lt : tc.length = 32 := by rw [htc, List.length_set]; exact lt
      have hB : AllB tc := by rw [htc]; exact hB.set (by decide)
      have Zc : Zs tc (p0 + 1) 32 := by rw [htc]; exact (hZ.sub (by omega) (Nat.le_refl _)).set (by omega)
      have LOW : ∀ i, i < p0 → tc[i]? = t[i]? := fun i hi => by rw [htc, List.getElem?_set_ne (by omega)]
      have H34 : tc[p0]? = some 34 := by rw [htc, List.getElem?_set_self (by omega)]
      have HQ : QSeg tc (p0 + 1) (p0 + 1) := QSeg.nil
      refine g_iload P290 d1_60 rfl ?_
      refine g_iconst (v := (1 : Int32)) P290 d1_62 (by rfl) ?_
      refine g_iadd (v := (iN (p0 + 1))) P290 d1_63 (iN_add _ 1) ?_
      refine g_istore P290 d1_64 #[.val (.ref tx), .val (.int (iN p0)), .val (.ref xp), .val (.int iv), .val (.int sh), .val (.int by_), .val (.int kv), .val (.int (1 : Int32)), .val (.int (0 : Int32)), .val (.int (1 : Int32)), .val (.int (1 : Int32)), .val (.int (iN (p0 + 1))), .unset] rfl ?_
      refine g_iload P290 d1_66 rfl ?_
      refine g_istore P290 d1_68 #[.val (.ref tx), .val (.int (iN p0)), .val (.ref xp), .val (.int iv), .val (.int sh), .val (.int by_), .val (.int kv), .val (.int (1 : Int32)), .val (.int (0 : Int32)), .val (.int (1 : Int32)), .val (.int (1 : Int32)), .val (.int (iN (p0 + 1))), .val (.int (iN (p0 + 1)))] rfl ?_
      refine g_iload P290 d1_70 rfl ?_
      refine g_ifYes P290 d1_72 (by decide) 101 (by decide) (by decide) ?_
      refine g_iload P290 d1_101 rfl ?_
      refine g_iconst (v := (1 : Int32)) P290 d1_103 (by rfl) ?_
      refine g_icmpYes P290 d1_104 (by decide) 136 (by decide) (by decide) ?_
      refine g_iload P290 d1_136 rfl ?_
      refine g_iconst (v := (2 : Int32)) P290 d1_138 (by rfl) ?_
      refine g_icmpYes P290 d1_139 (by decide) 161 (by decide) (by decide) ?_
      refine g_iload P290 d1_161 rfl ?_
      refine g_ifNo P290 d1_163 (by decide) ?_
      refine g_iload P290 d1_166 rfl ?_
      refine g_ifNo P290 d1_168 (by decide) ?_
      refine g_iload P290 d1_171 rfl ?_
      refine g_ifNo P290 d1_173 (by decide) ?_
      refine g_aloadN P290 d1_176 rfl rfl ?_
      refine g_bipush (v := (31 : Int32)) P290 d1_177 (by rfl) ?_
      refine g_bipush (v := (34 : Int32)) P290 d1_179 (by rfl) ?_
      refine g_bastoreB (i := 31) (w := 34) P290 d1_181 AT (by decide) (by simp only [List.length_map, List.length_set]; omega) ge (by decide) fun T291 h291 P291 W291 AT => ?_
      rw [map_set'] at AT
      have K := K.wr W291 (Or.inl (by simp))
      have AX := AX.other W291 xt
      refine g_aloadN P291 d1_182 rfl rfl ?_
      refine g_iloadN P291 d1_183 rfl ?_
      refine g_bipush (v := (31 : Int32)) P291 d1_184 (by rfl) ?_
      refine g_iload P291 d1_186 rfl ?_
      refine g_isub (v := ((31 : Int32) - (iN (p0 + 1)))) P291 d1_188 rfl ?_
      refine g_iastore (i := xi) P291 d1_189 AX IX (by rw [List.length_map]; omega) gx fun T292 h292 P292 W292 AX => ?_
      rw [map_set'] at AX
      have K := K.wr W292 (Or.inl (by simp))
      have AT := AT.other W292 tx_
      refine g_goto P292 d1_190 201 (by decide) (by decide) ?_
      refine g_bipush (v := (32 : Int32)) P292 d1_201 (by rfl) ?_
      exact g_retI P292 d1_203 (by decide) (by decide) ⟨_, p0 + 1, 31, rfl, AT, by rw [List.length_set]; exact lt, hB.set (by decide), AX, Or.inl ⟨by rw [List.getElem?_set_ne (by omega)]; exact H34, rfl, (HQ.trans (zs_q (Zc.sub (Nat.le_refl _) (by omega)) (by omega))).congr (fun i hi => by rw [List.getElem?_set_ne (by omega)]), by rw [List.getElem?_set_self (by omega)], rfl⟩, fun i hi => by rw [List.getElem?_set_ne (by omega)]; exact LOW i hi, K⟩
  · refine g_istore P0 d1_10 #[.val (.ref tx), .val (.int (iN p0)), .val (.ref xp), .val (.int iv), .val (.int sh), .val (.int by_), .val (.int kv), .val (.int (1 : Int32)), .val (.int (1 : Int32)), .unset, .unset, .unset, .unset] rfl ?_
    refine g_iload P0 d1_12 rfl ?_
    refine g_bipush (v := (8 : Int32)) P0 d1_14 (by rfl) ?_
    refine g_iloadN P0 d1_16 rfl ?_
    refine g_iadd (v := ((8 : Int32) + iv)) P0 d1_17 rfl ?_
    refine g_iushr (v := (XT.ushr sh ((8 : Int32) + iv))) P0 d1_18 rfl ?_
    refine g_iconst (v := (1 : Int32)) P0 d1_19 (by rfl) ?_
    refine g_iand (v := ((XT.ushr sh ((8 : Int32) + iv)) &&& (1 : Int32))) P0 d1_20 rfl ?_
    by_cases hqu : ((XT.ushr sh ((8 : Int32) + iv)) &&& (1 : Int32)) = (0 : Int32)
    · refine g_ifYes P0 d1_21 ((if0 _ _).trans (teq hqu).1) 28 (by decide) (by decide) ?_
      refine g_iconst (v := (0 : Int32)) P0 d1_28 (by rfl) ?_
      refine g_istore P0 d1_29 #[.val (.ref tx), .val (.int (iN p0)), .val (.ref xp), .val (.int iv), .val (.int sh), .val (.int by_), .val (.int kv), .val (.int (1 : Int32)), .val (.int (1 : Int32)), .val (.int (0 : Int32)), .unset, .unset, .unset] rfl ?_
      refine g_iloadN P0 d1_31 rfl ?_
      refine g_iload P0 d1_32 rfl ?_
      refine g_iconst (v := (1 : Int32)) P0 d1_34 (by rfl) ?_
      refine g_isub (v := (kv - (1 : Int32))) P0 d1_35 rfl ?_
      refine g_icmpNo P0 d1_36 (teq hl).2 ?_
      refine g_iconst (v := (1 : Int32)) P0 d1_39 (by rfl) ?_
      refine g_goto P0 d1_40 44 (by decide) (by decide) ?_
      refine g_istore P0 d1_44 #[.val (.ref tx), .val (.int (iN p0)), .val (.ref xp), .val (.int iv), .val (.int sh), .val (.int by_), .val (.int kv), .val (.int (1 : Int32)), .val (.int (1 : Int32)), .val (.int (0 : Int32)), .val (.int (1 : Int32)), .unset, .unset] rfl ?_
      refine g_iloadN P0 d1_46 rfl ?_
      refine g_istore P0 d1_47 #[.val (.ref tx), .val (.int (iN p0)), .val (.ref xp), .val (.int iv), .val (.int sh), .val (.int by_), .val (.int kv), .val (.int (1 : Int32)), .val (.int (1 : Int32)), .val (.int (0 : Int32)), .val (.int (1 : Int32)), .val (.int (iN p0)), .unset] rfl ?_
      refine g_iload P0 d1_49 rfl ?_
      refine g_ifYes P0 d1_51 (by decide) 66 (by decide) (by decide) ?_
      refine g_iload P0 d1_66 rfl ?_
      refine g_istore P0 d1_68 #[.val (.ref tx), .val (.int (iN p0)), .val (.ref xp), .val (.int iv), .val (.int sh), .val (.int by_), .val (.int kv), .val (.int (1 : Int32)), .val (.int (1 : Int32)), .val (.int (0 : Int32)), .val (.int (1 : Int32)), .val (.int (iN p0)), .val (.int (iN p0))] rfl ?_
      refine g_iload P0 d1_70 rfl ?_
      refine g_ifNo P0 d1_72 (by decide) ?_
      refine g_aloadN P0 d1_75 rfl rfl ?_
      refine g_iload P0 d1_76 rfl ?_
      refine g_iload P0 d1_78 rfl ?_
      refine g_bipush (v := (127 : Int32)) P0 d1_80 (by rfl) ?_
      refine g_iand (v := (by_ &&& (127 : Int32))) P0 d1_82 rfl ?_
      refine g_iload P0 d1_83 rfl ?_
      refine g_iload P0 d1_85 rfl ?_
      refine g_iconst (v := (1 : Int32)) P0 d1_87 (by rfl) ?_
      refine g_icmpNo P0 d1_88 (by decide) ?_
      refine g_iconst (v := (1 : Int32)) P0 d1_91 (by rfl) ?_
      refine g_goto P0 d1_92 96 (by decide) (by decide) ?_
      refine g_static P0 [(.ref tx), (.int (iN p0)), (.int (by_ &&& (127 : Int32))), (.int (0 : Int32)), (.int (1 : Int32))] (rest := []) (W := 0) d1_96 (hw _ (List.mem_of_getElem? (i := 78) rfl)) (hw _ (List.mem_of_getElem? (i := 79) rfl)) (hw _ (List.mem_of_getElem? (i := 4) rfl)) (hw _ (List.mem_of_getElem? (i := 80) rfl)) (by decide) (rm_putu1 l Z a0 hw _ n0 tx kt t p0 (by_ &&& (127 : Int32)) trivial AT (by first | omega | (simp only [List.length_set]; omega)) hB (m127 _) (by omega) ge) pd_7 rfl rfl rfl rfl (by decide) (by decide) (by decide) (by decide) fun v293 T293 h293 P293 q293 => ?_
      obtain ⟨d0, rfl, AT, x0, y0, z0, w0, v0, K'⟩ := q293
      have K := K.trans K' (fun x hx => Or.inl (by simp at hx; simp [hx]))
      have AX := AX.keep K' (ninS xt nin0)
      have hB0 := hB.set (i := p0) v0
      refine g_istore P293 d1_99 #[.val (.ref tx), .val (.int (iN p0)), .val (.ref xp), .val (.int iv), .val (.int sh), .val (.int by_), .val (.int kv), .val (.int (1 : Int32)), .val (.int (1 : Int32)), .val (.int (0 : Int32)), .val (.int (1 : Int32)), .val (.int (iN (p0 + 1))), .val (.int (iN p0))] rfl ?_
      refine g_iload P293 d1_101 rfl ?_
      refine g_iconst (v := (1 : Int32)) P293 d1_103 (by rfl) ?_
      refine g_icmpYes P293 d1_104 (by decide) 136 (by decide) (by decide) ?_
      refine g_iload P293 d1_136 rfl ?_
      refine g_iconst (v := (2 : Int32)) P293 d1_138 (by rfl) ?_
      refine g_icmpYes P293 d1_139 (by decide) 161 (by decide) (by decide) ?_
      refine g_iload P293 d1_161 rfl ?_
      refine g_ifNo P293 d1_163 (by decide) ?_
      refine g_iload P293 d1_166 rfl ?_
      refine g_ifNo P293 d1_168 (by decide) ?_
      refine g_iload P293 d1_171 rfl ?_
      refine g_ifYes P293 d1_173 (by decide) 193 (by decide) (by decide) ?_
      refine g_aloadN P293 d1_193 rfl rfl ?_
      refine g_iloadN P293 d1_194 rfl ?_
      refine g_bipush (v := (32 : Int32)) P293 d1_195 (by rfl) ?_
      refine g_iload P293 d1_197 rfl ?_
      refine g_isub (v := ((32 : Int32) - (iN p0))) P293 d1_199 rfl ?_
      have Zc : Zs (t.set p0 d0) (p0 + 1) 32 := ((hZ.sub (by omega) (Nat.le_refl _)).set (i := p0) (v := d0) (by omega))
      have hseg : PSeg (t.set p0 d0) p0 32 := (pseg_put (by rw [List.getElem?_set_self (by first | omega | (simp only [List.length_set]; omega))]) x0 y0 z0 (fun q => absurd q (w0 rfl)) (zs_p Zc (by omega)))
      have ltn : (t.set p0 d0).length = 32 := by first | omega | (simp only [List.length_set]; omega)
      refine g_iastore (i := xi) P293 d1_200 AX IX (by rw [List.length_map]; omega) gx fun T294 h294 P294 W294 AX => ?_
      rw [map_set'] at AX
      have K := K.wr W294 (Or.inl (by simp))
      have AT := AT.other W294 tx_
      refine g_bipush (v := (32 : Int32)) P294 d1_201 (by rfl) ?_
      exact g_retI P294 d1_203 (by decide) (by decide) ⟨_, p0, 32, rfl, AT, ltn, hB0, AX, Or.inr ⟨rfl, hseg, rfl⟩, fun i hi => by rw [List.getElem?_set_ne (by omega)], K⟩
    · refine g_ifNo P0 d1_21 ((if0 _ _).trans (feq hqu).1) ?_
      refine g_iconst (v := (1 : Int32)) P0 d1_24 (by rfl) ?_
      refine g_goto P0 d1_25 29 (by decide) (by decide) ?_
      refine g_istore P0 d1_29 #[.val (.ref tx), .val (.int (iN p0)), .val (.ref xp), .val (.int iv), .val (.int sh), .val (.int by_), .val (.int kv), .val (.int (1 : Int32)), .val (.int (1 : Int32)), .val (.int (1 : Int32)), .unset, .unset, .unset] rfl ?_
      refine g_iloadN P0 d1_31 rfl ?_
      refine g_iload P0 d1_32 rfl ?_
      refine g_iconst (v := (1 : Int32)) P0 d1_34 (by rfl) ?_
      refine g_isub (v := (kv - (1 : Int32))) P0 d1_35 rfl ?_
      refine g_icmpNo P0 d1_36 (teq hl).2 ?_
      refine g_iconst (v := (1 : Int32)) P0 d1_39 (by rfl) ?_
      refine g_goto P0 d1_40 44 (by decide) (by decide) ?_
      refine g_istore P0 d1_44 #[.val (.ref tx), .val (.int (iN p0)), .val (.ref xp), .val (.int iv), .val (.int sh), .val (.int by_), .val (.int kv), .val (.int (1 : Int32)), .val (.int (1 : Int32)), .val (.int (1 : Int32)), .val (.int (1 : Int32)), .unset, .unset] rfl ?_
      refine g_iloadN P0 d1_46 rfl ?_
      refine g_istore P0 d1_47 #[.val (.ref tx), .val (.int (iN p0)), .val (.ref xp), .val (.int iv), .val (.int sh), .val (.int by_), .val (.int kv), .val (.int (1 : Int32)), .val (.int (1 : Int32)), .val (.int (1 : Int32)), .val (.int (1 : Int32)), .val (.int (iN p0)), .unset] rfl ?_
      refine g_iload P0 d1_49 rfl ?_
      refine g_ifNo P0 d1_51 (by decide) ?_
      refine g_aloadN P0 d1_54 rfl rfl ?_
      refine g_iload P0 d1_55 rfl ?_
      refine g_bipush (v := (34 : Int32)) P0 d1_57 (by rfl) ?_
      refine g_bastoreB (i := p0) (w := 34) P0 d1_59 AT (ix_iN (by omega)) (by simp only [List.length_map, List.length_set]; omega) ge (by decide) fun T295 h295 P295 W295 AT => ?_
      rw [map_set'] at AT
      have K := K.wr W295 (Or.inl (by simp))
      have AX := AX.other W295 xt
      obtain ⟨tc, htc⟩ : ∃ tc, tc = t.set p0 34 := ⟨_, rfl⟩
      rw [← htc] at AT
      have lt : tc.length = 32 := by rw [htc, List.length_set]; exact lt
      have hB : AllB tc := by rw [htc]; exact hB.set (by decide)
      have Zc : Zs tc (p0 + 1) 32 := by rw [htc]; exact (hZ.sub (by omega) (Nat.le_refl _)).set (by omega)
      have LOW : ∀ i, i < p0 → tc[i]? = t[i]? := fun i hi => by rw [htc, List.getElem?_set_ne (by omega)]
      have H34 : tc[p0]? = some 34 := by rw [htc, List.getElem?_set_self (by omega)]
      have HQ : QSeg tc (p0 + 1) (p0 + 1) := QSeg.nil
      refine g_iload P295 d1_60 rfl ?_
      refine g_iconst (v := (1 : Int32)) P295 d1_62 (by rfl) ?_
      refine g_iadd (v := (iN (p0 + 1))) P295 d1_63 (iN_add _ 1) ?_
      refine g_istore P295 d1_64 #[.val (.ref tx), .val (.int (iN p0)), .val (.ref xp), .val (.int iv), .val (.int sh), .val (.int by_), .val (.int kv), .val (.int (1 : Int32)), .val (.int (1 : Int32)), .val (.int (1 : Int32)), .val (.int (1 : Int32)), .val (.int (iN (p0 + 1))), .unset] rfl ?_
      refine g_iload P295 d1_66 rfl ?_
      refine g_istore P295 d1_68 #[.val (.ref tx), .val (.int (iN p0)), .val (.ref xp), .val (.int iv), .val (.int sh), .val (.int by_), .val (.int kv), .val (.int (1 : Int32)), .val (.int (1 : Int32)), .val (.int (1 : Int32)), .val (.int (1 : Int32)), .val (.int (iN (p0 + 1))), .val (.int (iN (p0 + 1)))] rfl ?_
      refine g_iload P295 d1_70 rfl ?_
      refine g_ifNo P295 d1_72 (by decide) ?_
      refine g_aloadN P295 d1_75 rfl rfl ?_
      refine g_iload P295 d1_76 rfl ?_
      refine g_iload P295 d1_78 rfl ?_
      refine g_bipush (v := (127 : Int32)) P295 d1_80 (by rfl) ?_
      refine g_iand (v := (by_ &&& (127 : Int32))) P295 d1_82 rfl ?_
      refine g_iload P295 d1_83 rfl ?_
      refine g_iload P295 d1_85 rfl ?_
      refine g_iconst (v := (1 : Int32)) P295 d1_87 (by rfl) ?_
      refine g_icmpNo P295 d1_88 (by decide) ?_
      refine g_iconst (v := (1 : Int32)) P295 d1_91 (by rfl) ?_
      refine g_goto P295 d1_92 96 (by decide) (by decide) ?_
      refine g_static P295 [(.ref tx), (.int (iN (p0 + 1))), (.int (by_ &&& (127 : Int32))), (.int (1 : Int32)), (.int (1 : Int32))] (rest := []) (W := 0) d1_96 (hw _ (List.mem_of_getElem? (i := 78) rfl)) (hw _ (List.mem_of_getElem? (i := 79) rfl)) (hw _ (List.mem_of_getElem? (i := 4) rfl)) (hw _ (List.mem_of_getElem? (i := 80) rfl)) (by decide) (rm_putq l Z a0 hw _ n0 tx kt tc (p0 + 1) (by_ &&& (127 : Int32)) (1 : Int32) trivial AT lt hB (m127 _) (by omega) ge) pd_7 rfl rfl rfl rfl (by decide) (by decide) (by decide) (by decide) fun v296 T296 h296 P296 q296 => ?_
      obtain ⟨t0, q0, rfl, AT, lt, ha0, hb0, hlow, hhigh, hQ, hB, K'⟩ := q296
      have K := K.trans K' (fun x hx => Or.inl (by simp at hx; simp [hx]))
      have AX := AX.keep K' (ninS xt nin0)
      have HQ := (HQ.congr hlow).trans hQ
      have Zc : Zs t0 q0 32 := fun i h1 h2 => (hhigh i h1).trans (Zc i (by omega) h2)
      have LOW : ∀ i, i < p0 → t0[i]? = t[i]? := fun i hi => (hlow i (by omega)).trans (LOW i hi)
      have H34 := (hlow p0 (by omega)).trans H34
      refine g_istore P296 d1_99 #[.val (.ref tx), .val (.int (iN p0)), .val (.ref xp), .val (.int iv), .val (.int sh), .val (.int by_), .val (.int kv), .val (.int (1 : Int32)), .val (.int (1 : Int32)), .val (.int (1 : Int32)), .val (.int (1 : Int32)), .val (.int (iN q0)), .val (.int (iN (p0 + 1)))] rfl ?_
      refine g_iload P296 d1_101 rfl ?_
      refine g_iconst (v := (1 : Int32)) P296 d1_103 (by rfl) ?_
      refine g_icmpYes P296 d1_104 (by decide) 136 (by decide) (by decide) ?_
      refine g_iload P296 d1_136 rfl ?_
      refine g_iconst (v := (2 : Int32)) P296 d1_138 (by rfl) ?_
      refine g_icmpYes P296 d1_139 (by decide) 161 (by decide) (by decide) ?_
      refine g_iload P296 d1_161 rfl ?_
      refine g_ifNo P296 d1_163 (by decide) ?_
      refine g_iload P296 d1_166 rfl ?_
      refine g_ifNo P296 d1_168 (by decide) ?_
      refine g_iload P296 d1_171 rfl ?_
      refine g_ifNo P296 d1_173 (by decide) ?_
      refine g_aloadN P296 d1_176 rfl rfl ?_
      refine g_bipush (v := (31 : Int32)) P296 d1_177 (by rfl) ?_
      refine g_bipush (v := (34 : Int32)) P296 d1_179 (by rfl) ?_
      refine g_bastoreB (i := 31) (w := 34) P296 d1_181 AT (by decide) (by simp only [List.length_map, List.length_set]; omega) ge (by decide) fun T297 h297 P297 W297 AT => ?_
      rw [map_set'] at AT
      have K := K.wr W297 (Or.inl (by simp))
      have AX := AX.other W297 xt
      refine g_aloadN P297 d1_182 rfl rfl ?_
      refine g_iloadN P297 d1_183 rfl ?_
      refine g_bipush (v := (31 : Int32)) P297 d1_184 (by rfl) ?_
      refine g_iload P297 d1_186 rfl ?_
      refine g_isub (v := ((31 : Int32) - (iN (p0 + 1)))) P297 d1_188 rfl ?_
      refine g_iastore (i := xi) P297 d1_189 AX IX (by rw [List.length_map]; omega) gx fun T298 h298 P298 W298 AX => ?_
      rw [map_set'] at AX
      have K := K.wr W298 (Or.inl (by simp))
      have AT := AT.other W298 tx_
      refine g_goto P298 d1_190 201 (by decide) (by decide) ?_
      refine g_bipush (v := (32 : Int32)) P298 d1_201 (by rfl) ?_
      exact g_retI P298 d1_203 (by decide) (by decide) ⟨_, p0 + 1, 31, rfl, AT, by rw [List.length_set]; exact lt, hB.set (by decide), AX, Or.inl ⟨by rw [List.getElem?_set_ne (by omega)]; exact H34, rfl, (HQ.trans (zs_q (Zc.sub (Nat.le_refl _) (by omega)) (by omega))).congr (fun i hi => by rw [List.getElem?_set_ne (by omega)]), by rw [List.getElem?_set_self (by omega)], rfl⟩, fun i hi => by rw [List.getElem?_set_ne (by omega)]; exact LOW i hi, K⟩
  · refine g_istore P0 d1_10 #[.val (.ref tx), .val (.int (iN p0)), .val (.ref xp), .val (.int iv), .val (.int sh), .val (.int by_), .val (.int kv), .val (.int (1 : Int32)), .val (.int (2 : Int32)), .unset, .unset, .unset, .unset] rfl ?_
    refine g_iload P0 d1_12 rfl ?_
    refine g_bipush (v := (8 : Int32)) P0 d1_14 (by rfl) ?_
    refine g_iloadN P0 d1_16 rfl ?_
    refine g_iadd (v := ((8 : Int32) + iv)) P0 d1_17 rfl ?_
    refine g_iushr (v := (XT.ushr sh ((8 : Int32) + iv))) P0 d1_18 rfl ?_
    refine g_iconst (v := (1 : Int32)) P0 d1_19 (by rfl) ?_
    refine g_iand (v := ((XT.ushr sh ((8 : Int32) + iv)) &&& (1 : Int32))) P0 d1_20 rfl ?_
    by_cases hqu : ((XT.ushr sh ((8 : Int32) + iv)) &&& (1 : Int32)) = (0 : Int32)
    · refine g_ifYes P0 d1_21 ((if0 _ _).trans (teq hqu).1) 28 (by decide) (by decide) ?_
      refine g_iconst (v := (0 : Int32)) P0 d1_28 (by rfl) ?_
      refine g_istore P0 d1_29 #[.val (.ref tx), .val (.int (iN p0)), .val (.ref xp), .val (.int iv), .val (.int sh), .val (.int by_), .val (.int kv), .val (.int (1 : Int32)), .val (.int (2 : Int32)), .val (.int (0 : Int32)), .unset, .unset, .unset] rfl ?_
      refine g_iloadN P0 d1_31 rfl ?_
      refine g_iload P0 d1_32 rfl ?_
      refine g_iconst (v := (1 : Int32)) P0 d1_34 (by rfl) ?_
      refine g_isub (v := (kv - (1 : Int32))) P0 d1_35 rfl ?_
      refine g_icmpNo P0 d1_36 (teq hl).2 ?_
      refine g_iconst (v := (1 : Int32)) P0 d1_39 (by rfl) ?_
      refine g_goto P0 d1_40 44 (by decide) (by decide) ?_
      refine g_istore P0 d1_44 #[.val (.ref tx), .val (.int (iN p0)), .val (.ref xp), .val (.int iv), .val (.int sh), .val (.int by_), .val (.int kv), .val (.int (1 : Int32)), .val (.int (2 : Int32)), .val (.int (0 : Int32)), .val (.int (1 : Int32)), .unset, .unset] rfl ?_
      refine g_iloadN P0 d1_46 rfl ?_
      refine g_istore P0 d1_47 #[.val (.ref tx), .val (.int (iN p0)), .val (.ref xp), .val (.int iv), .val (.int sh), .val (.int by_), .val (.int kv), .val (.int (1 : Int32)), .val (.int (2 : Int32)), .val (.int (0 : Int32)), .val (.int (1 : Int32)), .val (.int (iN p0)), .unset] rfl ?_
      refine g_iload P0 d1_49 rfl ?_
      refine g_ifYes P0 d1_51 (by decide) 66 (by decide) (by decide) ?_
      refine g_iload P0 d1_66 rfl ?_
      refine g_istore P0 d1_68 #[.val (.ref tx), .val (.int (iN p0)), .val (.ref xp), .val (.int iv), .val (.int sh), .val (.int by_), .val (.int kv), .val (.int (1 : Int32)), .val (.int (2 : Int32)), .val (.int (0 : Int32)), .val (.int (1 : Int32)), .val (.int (iN p0)), .val (.int (iN p0))] rfl ?_
      refine g_iload P0 d1_70 rfl ?_
      refine g_ifNo P0 d1_72 (by decide) ?_
      refine g_aloadN P0 d1_75 rfl rfl ?_
      refine g_iload P0 d1_76 rfl ?_
      refine g_iload P0 d1_78 rfl ?_
      refine g_bipush (v := (127 : Int32)) P0 d1_80 (by rfl) ?_
      refine g_iand (v := (by_ &&& (127 : Int32))) P0 d1_82 rfl ?_
      refine g_iload P0 d1_83 rfl ?_
      refine g_iload P0 d1_85 rfl ?_
      refine g_iconst (v := (1 : Int32)) P0 d1_87 (by rfl) ?_
      refine g_icmpYes P0 d1_88 (by decide) 95 (by decide) (by decide) ?_
      refine g_iconst (v := (0 : Int32)) P0 d1_95 (by rfl) ?_
      refine g_static P0 [(.ref tx), (.int (iN p0)), (.int (by_ &&& (127 : Int32))), (.int (0 : Int32)), (.int (0 : Int32))] (rest := []) (W := 0) d1_96 (hw _ (List.mem_of_getElem? (i := 78) rfl)) (hw _ (List.mem_of_getElem? (i := 79) rfl)) (hw _ (List.mem_of_getElem? (i := 4) rfl)) (hw _ (List.mem_of_getElem? (i := 80) rfl)) (by decide) (rm_putu0 l Z a0 hw _ n0 tx kt t p0 (by_ &&& (127 : Int32)) trivial AT (by first | omega | (simp only [List.length_set]; omega)) hB (m127 _) (by omega) ge) pd_7 rfl rfl rfl rfl (by decide) (by decide) (by decide) (by decide) fun v299 T299 h299 P299 q299 => ?_
      obtain ⟨d0, rfl, AT, x0, y0, z0, w0, v0, K'⟩ := q299
      have K := K.trans K' (fun x hx => Or.inl (by simp at hx; simp [hx]))
      have AX := AX.keep K' (ninS xt nin0)
      have hB0 := hB.set (i := p0) v0
      refine g_istore P299 d1_99 #[.val (.ref tx), .val (.int (iN p0)), .val (.ref xp), .val (.int iv), .val (.int sh), .val (.int by_), .val (.int kv), .val (.int (1 : Int32)), .val (.int (2 : Int32)), .val (.int (0 : Int32)), .val (.int (1 : Int32)), .val (.int (iN (p0 + 1))), .val (.int (iN p0))] rfl ?_
      refine g_iload P299 d1_101 rfl ?_
      refine g_iconst (v := (1 : Int32)) P299 d1_103 (by rfl) ?_
      refine g_icmpNo P299 d1_104 (by decide) ?_
      refine g_aloadN P299 d1_107 rfl rfl ?_
      refine g_iload P299 d1_108 rfl ?_
      refine g_iload P299 d1_110 rfl ?_
      refine g_bipush (v := (8 : Int32)) P299 d1_112 (by rfl) ?_
      refine g_iushr (v := (XT.ushr by_ (8 : Int32))) P299 d1_114 rfl ?_
      refine g_bipush (v := (127 : Int32)) P299 d1_115 (by rfl) ?_
      refine g_iand (v := ((XT.ushr by_ (8 : Int32)) &&& (127 : Int32))) P299 d1_117 rfl ?_
      refine g_iload P299 d1_118 rfl ?_
      refine g_iload P299 d1_120 rfl ?_
      refine g_iconst (v := (2 : Int32)) P299 d1_122 (by rfl) ?_
      refine g_icmpNo P299 d1_123 (by decide) ?_
      refine g_iconst (v := (1 : Int32)) P299 d1_126 (by rfl) ?_
      refine g_goto P299 d1_127 131 (by decide) (by decide) ?_
      refine g_static P299 [(.ref tx), (.int (iN (p0 + 1))), (.int ((XT.ushr by_ (8 : Int32)) &&& (127 : Int32))), (.int (0 : Int32)), (.int (1 : Int32))] (rest := []) (W := 0) d1_131 (hw _ (List.mem_of_getElem? (i := 78) rfl)) (hw _ (List.mem_of_getElem? (i := 79) rfl)) (hw _ (List.mem_of_getElem? (i := 4) rfl)) (hw _ (List.mem_of_getElem? (i := 80) rfl)) (by decide) (rm_putu1 l Z a0 hw _ n0 tx kt (t.set p0 d0) (p0 + 1) ((XT.ushr by_ (8 : Int32)) &&& (127 : Int32)) trivial AT (by first | omega | (simp only [List.length_set]; omega)) hB0 (m127 _) (by omega) ge) pd_7 rfl rfl rfl rfl (by decide) (by decide) (by decide) (by decide) fun v300 T300 h300 P300 q300 => ?_
      obtain ⟨d1, rfl, AT, x1, y1, z1, w1, v1, K'⟩ := q300
      have K := K.trans K' (fun x hx => Or.inl (by simp at hx; simp [hx]))
      have AX := AX.keep K' (ninS xt nin0)
      have hB1 := hB0.set (i := (p0 + 1)) v1
      refine g_istore P300 d1_134 #[.val (.ref tx), .val (.int (iN p0)), .val (.ref xp), .val (.int iv), .val (.int sh), .val (.int by_), .val (.int kv), .val (.int (1 : Int32)), .val (.int (2 : Int32)), .val (.int (0 : Int32)), .val (.int (1 : Int32)), .val (.int (iN (p0 + 1 + 1))), .val (.int (iN p0))] rfl ?_
      refine g_iload P300 d1_136 rfl ?_
      refine g_iconst (v := (2 : Int32)) P300 d1_138 (by rfl) ?_
      refine g_icmpYes P300 d1_139 (by decide) 161 (by decide) (by decide) ?_
      refine g_iload P300 d1_161 rfl ?_
      refine g_ifNo P300 d1_163 (by decide) ?_
      refine g_iload P300 d1_166 rfl ?_
      refine g_ifNo P300 d1_168 (by decide) ?_
      refine g_iload P300 d1_171 rfl ?_
      refine g_ifYes P300 d1_173 (by decide) 193 (by decide) (by decide) ?_
      refine g_aloadN P300 d1_193 rfl rfl ?_
      refine g_iloadN P300 d1_194 rfl ?_
      refine g_bipush (v := (32 : Int32)) P300 d1_195 (by rfl) ?_
      refine g_iload P300 d1_197 rfl ?_
      refine g_isub (v := ((32 : Int32) - (iN p0))) P300 d1_199 rfl ?_
      have Zc : Zs ((t.set p0 d0).set (p0 + 1) d1) (p0 + 2) 32 := (((hZ.sub (by omega) (Nat.le_refl _)).set (i := p0) (v := d0) (by omega)).set (i := (p0 + 1)) (v := d1) (by omega))
      have hseg : PSeg ((t.set p0 d0).set (p0 + 1) d1) p0 32 := (pseg_put (by rw [List.getElem?_set_ne (by omega), List.getElem?_set_self (by first | omega | (simp only [List.length_set]; omega))]) x0 y0 z0 (fun _ => ⟨by omega, d1, (by rw [List.getElem?_set_self (by first | omega | (simp only [List.length_set]; omega))]), y1⟩) (pseg_put (by rw [List.getElem?_set_self (by first | omega | (simp only [List.length_set]; omega))]) x1 y1 z1 (fun q => absurd q (w1 rfl)) (zs_p Zc (by omega))))
      have ltn : ((t.set p0 d0).set (p0 + 1) d1).length = 32 := by first | omega | (simp only [List.length_set]; omega)
      refine g_iastore (i := xi) P300 d1_200 AX IX (by rw [List.length_map]; omega) gx fun T301 h301 P301 W301 AX => ?_
      rw [map_set'] at AX
      have K := K.wr W301 (Or.inl (by simp))
      have AT := AT.other W301 tx_
      refine g_bipush (v := (32 : Int32)) P301 d1_201 (by rfl) ?_
      exact g_retI P301 d1_203 (by decide) (by decide) ⟨_, p0, 32, rfl, AT, ltn, hB1, AX, Or.inr ⟨rfl, hseg, rfl⟩, fun i hi => by rw [List.getElem?_set_ne (by omega), List.getElem?_set_ne (by omega)], K⟩
    · refine g_ifNo P0 d1_21 ((if0 _ _).trans (feq hqu).1) ?_
      refine g_iconst (v := (1 : Int32)) P0 d1_24 (by rfl) ?_
      refine g_goto P0 d1_25 29 (by decide) (by decide) ?_
      refine g_istore P0 d1_29 #[.val (.ref tx), .val (.int (iN p0)), .val (.ref xp), .val (.int iv), .val (.int sh), .val (.int by_), .val (.int kv), .val (.int (1 : Int32)), .val (.int (2 : Int32)), .val (.int (1 : Int32)), .unset, .unset, .unset] rfl ?_
      refine g_iloadN P0 d1_31 rfl ?_
      refine g_iload P0 d1_32 rfl ?_
      refine g_iconst (v := (1 : Int32)) P0 d1_34 (by rfl) ?_
      refine g_isub (v := (kv - (1 : Int32))) P0 d1_35 rfl ?_
      refine g_icmpNo P0 d1_36 (teq hl).2 ?_
      refine g_iconst (v := (1 : Int32)) P0 d1_39 (by rfl) ?_
      refine g_goto P0 d1_40 44 (by decide) (by decide) ?_
      refine g_istore P0 d1_44 #[.val (.ref tx), .val (.int (iN p0)), .val (.ref xp), .val (.int iv), .val (.int sh), .val (.int by_), .val (.int kv), .val (.int (1 : Int32)), .val (.int (2 : Int32)), .val (.int (1 : Int32)), .val (.int (1 : Int32)), .unset, .unset] rfl ?_
      refine g_iloadN P0 d1_46 rfl ?_
      refine g_istore P0 d1_47 #[.val (.ref tx), .val (.int (iN p0)), .val (.ref xp), .val (.int iv), .val (.int sh), .val (.int by_), .val (.int kv), .val (.int (1 : Int32)), .val (.int (2 : Int32)), .val (.int (1 : Int32)), .val (.int (1 : Int32)), .val (.int (iN p0)), .unset] rfl ?_
      refine g_iload P0 d1_49 rfl ?_
      refine g_ifNo P0 d1_51 (by decide) ?_
      refine g_aloadN P0 d1_54 rfl rfl ?_
      refine g_iload P0 d1_55 rfl ?_
      refine g_bipush (v := (34 : Int32)) P0 d1_57 (by rfl) ?_
      refine g_bastoreB (i := p0) (w := 34) P0 d1_59 AT (ix_iN (by omega)) (by simp only [List.length_map, List.length_set]; omega) ge (by decide) fun T302 h302 P302 W302 AT => ?_
      rw [map_set'] at AT
      have K := K.wr W302 (Or.inl (by simp))
      have AX := AX.other W302 xt
      obtain ⟨tc, htc⟩ : ∃ tc, tc = t.set p0 34 := ⟨_, rfl⟩
      rw [← htc] at AT
      have lt : tc.length = 32 := by rw [htc, List.length_set]; exact lt
      have hB : AllB tc := by rw [htc]; exact hB.set (by decide)
      have Zc : Zs tc (p0 + 1) 32 := by rw [htc]; exact (hZ.sub (by omega) (Nat.le_refl _)).set (by omega)
      have LOW : ∀ i, i < p0 → tc[i]? = t[i]? := fun i hi => by rw [htc, List.getElem?_set_ne (by omega)]
      have H34 : tc[p0]? = some 34 := by rw [htc, List.getElem?_set_self (by omega)]
      have HQ : QSeg tc (p0 + 1) (p0 + 1) := QSeg.nil
      refine g_iload P302 d1_60 rfl ?_
      refine g_iconst (v := (1 : Int32)) P302 d1_62 (by rfl) ?_
      refine g_iadd (v := (iN (p0 + 1))) P302 d1_63 (iN_add _ 1) ?_
      refine g_istore P302 d1_64 #[.val (.ref tx), .val (.int (iN p0)), .val (.ref xp), .val (.int iv), .val (.int sh), .val (.int by_), .val (.int kv), .val (.int (1 : Int32)), .val (.int (2 : Int32)), .val (.int (1 : Int32)), .val (.int (1 : Int32)), .val (.int (iN (p0 + 1))), .unset] rfl ?_
      refine g_iload P302 d1_66 rfl ?_
      refine g_istore P302 d1_68 #[.val (.ref tx), .val (.int (iN p0)), .val (.ref xp), .val (.int iv), .val (.int sh), .val (.int by_), .val (.int kv), .val (.int (1 : Int32)), .val (.int (2 : Int32)), .val (.int (1 : Int32)), .val (.int (1 : Int32)), .val (.int (iN (p0 + 1))), .val (.int (iN (p0 + 1)))] rfl ?_
      refine g_iload P302 d1_70 rfl ?_
      refine g_ifNo P302 d1_72 (by decide) ?_
      refine g_aloadN P302 d1_75 rfl rfl ?_
      refine g_iload P302 d1_76 rfl ?_
      refine g_iload P302 d1_78 rfl ?_
      refine g_bipush (v := (127 : Int32)) P302 d1_80 (by rfl) ?_
      refine g_iand (v := (by_ &&& (127 : Int32))) P302 d1_82 rfl ?_
      refine g_iload P302 d1_83 rfl ?_
      refine g_iload P302 d1_85 rfl ?_
      refine g_iconst (v := (1 : Int32)) P302 d1_87 (by rfl) ?_
      refine g_icmpYes P302 d1_88 (by decide) 95 (by decide) (by decide) ?_
      refine g_iconst (v := (0 : Int32)) P302 d1_95 (by rfl) ?_
      refine g_static P302 [(.ref tx), (.int (iN (p0 + 1))), (.int (by_ &&& (127 : Int32))), (.int (1 : Int32)), (.int (0 : Int32))] (rest := []) (W := 0) d1_96 (hw _ (List.mem_of_getElem? (i := 78) rfl)) (hw _ (List.mem_of_getElem? (i := 79) rfl)) (hw _ (List.mem_of_getElem? (i := 4) rfl)) (hw _ (List.mem_of_getElem? (i := 80) rfl)) (by decide) (rm_putq l Z a0 hw _ n0 tx kt tc (p0 + 1) (by_ &&& (127 : Int32)) (0 : Int32) trivial AT lt hB (m127 _) (by omega) ge) pd_7 rfl rfl rfl rfl (by decide) (by decide) (by decide) (by decide) fun v303 T303 h303 P303 q303 => ?_
      obtain ⟨t0, q0, rfl, AT, lt, ha0, hb0, hlow, hhigh, hQ, hB, K'⟩ := q303
      have K := K.trans K' (fun x hx => Or.inl (by simp at hx; simp [hx]))
      have AX := AX.keep K' (ninS xt nin0)
      have HQ := (HQ.congr hlow).trans hQ
      have Zc : Zs t0 q0 32 := fun i h1 h2 => (hhigh i h1).trans (Zc i (by omega) h2)
      have LOW : ∀ i, i < p0 → t0[i]? = t[i]? := fun i hi => (hlow i (by omega)).trans (LOW i hi)
      have H34 := (hlow p0 (by omega)).trans H34
      refine g_istore P303 d1_99 #[.val (.ref tx), .val (.int (iN p0)), .val (.ref xp), .val (.int iv), .val (.int sh), .val (.int by_), .val (.int kv), .val (.int (1 : Int32)), .val (.int (2 : Int32)), .val (.int (1 : Int32)), .val (.int (1 : Int32)), .val (.int (iN q0)), .val (.int (iN (p0 + 1)))] rfl ?_
      refine g_iload P303 d1_101 rfl ?_
      refine g_iconst (v := (1 : Int32)) P303 d1_103 (by rfl) ?_
      refine g_icmpNo P303 d1_104 (by decide) ?_
      refine g_aloadN P303 d1_107 rfl rfl ?_
      refine g_iload P303 d1_108 rfl ?_
      refine g_iload P303 d1_110 rfl ?_
      refine g_bipush (v := (8 : Int32)) P303 d1_112 (by rfl) ?_
      refine g_iushr (v := (XT.ushr by_ (8 : Int32))) P303 d1_114 rfl ?_
      refine g_bipush (v := (127 : Int32)) P303 d1_115 (by rfl) ?_
      refine g_iand (v := ((XT.ushr by_ (8 : Int32)) &&& (127 : Int32))) P303 d1_117 rfl ?_
      refine g_iload P303 d1_118 rfl ?_
      refine g_iload P303 d1_120 rfl ?_
      refine g_iconst (v := (2 : Int32)) P303 d1_122 (by rfl) ?_
      refine g_icmpNo P303 d1_123 (by decide) ?_
      refine g_iconst (v := (1 : Int32)) P303 d1_126 (by rfl) ?_
      refine g_goto P303 d1_127 131 (by decide) (by decide) ?_
      refine g_static P303 [(.ref tx), (.int (iN q0)), (.int ((XT.ushr by_ (8 : Int32)) &&& (127 : Int32))), (.int (1 : Int32)), (.int (1 : Int32))] (rest := []) (W := 0) d1_131 (hw _ (List.mem_of_getElem? (i := 78) rfl)) (hw _ (List.mem_of_getElem? (i := 79) rfl)) (hw _ (List.mem_of_getElem? (i := 4) rfl)) (hw _ (List.mem_of_getElem? (i := 80) rfl)) (by decide) (rm_putq l Z a0 hw _ n0 tx kt t0 q0 ((XT.ushr by_ (8 : Int32)) &&& (127 : Int32)) (1 : Int32) trivial AT lt hB (m127 _) (by omega) ge) pd_7 rfl rfl rfl rfl (by decide) (by decide) (by decide) (by decide) fun v304 T304 h304 P304 q304 => ?_
      obtain ⟨t1, q1, rfl, AT, lt, ha1, hb1, hlow, hhigh, hQ, hB, K'⟩ := q304
      have K := K.trans K' (fun x hx => Or.inl (by simp at hx; simp [hx]))
      have AX := AX.keep K' (ninS xt nin0)
      have HQ := (HQ.congr hlow).trans hQ
      have Zc : Zs t1 q1 32 := fun i h1 h2 => (hhigh i h1).trans (Zc i (by omega) h2)
      have LOW : ∀ i, i < p0 → t1[i]? = t[i]? := fun i hi => (hlow i (by omega)).trans (LOW i hi)
      have H34 := (hlow p0 (by omega)).trans H34
      refine g_istore P304 d1_134 #[.val (.ref tx), .val (.int (iN p0)), .val (.ref xp), .val (.int iv), .val (.int sh), .val (.int by_), .val (.int kv), .val (.int (1 : Int32)), .val (.int (2 : Int32)), .val (.int (1 : Int32)), .val (.int (1 : Int32)), .val (.int (iN q1)), .val (.int (iN (p0 + 1)))] rfl ?_
      refine g_iload P304 d1_136 rfl ?_
      refine g_iconst (v := (2 : Int32)) P304 d1_138 (by rfl) ?_
      refine g_icmpYes P304 d1_139 (by decide) 161 (by decide) (by decide) ?_
      refine g_iload P304 d1_161 rfl ?_
      refine g_ifNo P304 d1_163 (by decide) ?_
      refine g_iload P304 d1_166 rfl ?_
      refine g_ifNo P304 d1_168 (by decide) ?_
      refine g_iload P304 d1_171 rfl ?_
      refine g_ifNo P304 d1_173 (by decide) ?_
      refine g_aloadN P304 d1_176 rfl rfl ?_
      refine g_bipush (v := (31 : Int32)) P304 d1_177 (by rfl) ?_
      refine g_bipush (v := (34 : Int32)) P304 d1_179 (by rfl) ?_
      refine g_bastoreB (i := 31) (w := 34) P304 d1_181 AT (by decide) (by simp only [List.length_map, List.length_set]; omega) ge (by decide) fun T305 h305 P305 W305 AT => ?_
      rw [map_set'] at AT
      have K := K.wr W305 (Or.inl (by simp))
      have AX := AX.other W305 xt
      refine g_aloadN P305 d1_182 rfl rfl ?_
      refine g_iloadN P305 d1_183 rfl ?_
      refine g_bipush (v := (31 : Int32)) P305 d1_184 (by rfl) ?_
      refine g_iload P305 d1_186 rfl ?_
      refine g_isub (v := ((31 : Int32) - (iN (p0 + 1)))) P305 d1_188 rfl ?_
      refine g_iastore (i := xi) P305 d1_189 AX IX (by rw [List.length_map]; omega) gx fun T306 h306 P306 W306 AX => ?_
      rw [map_set'] at AX
      have K := K.wr W306 (Or.inl (by simp))
      have AT := AT.other W306 tx_
      refine g_goto P306 d1_190 201 (by decide) (by decide) ?_
      refine g_bipush (v := (32 : Int32)) P306 d1_201 (by rfl) ?_
      exact g_retI P306 d1_203 (by decide) (by decide) ⟨_, p0 + 1, 31, rfl, AT, by rw [List.length_set]; exact lt, hB.set (by decide), AX, Or.inl ⟨by rw [List.getElem?_set_ne (by omega)]; exact H34, rfl, (HQ.trans (zs_q (Zc.sub (Nat.le_refl _) (by omega)) (by omega))).congr (fun i hi => by rw [List.getElem?_set_ne (by omega)]), by rw [List.getElem?_set_self (by omega)], rfl⟩, fun i hi => by rw [List.getElem?_set_ne (by omega)]; exact LOW i hi, K⟩
  · refine g_istore P0 d1_10 #[.val (.ref tx), .val (.int (iN p0)), .val (.ref xp), .val (.int iv), .val (.int sh), .val (.int by_), .val (.int kv), .val (.int (1 : Int32)), .val (.int (3 : Int32)), .unset, .unset, .unset, .unset] rfl ?_
    refine g_iload P0 d1_12 rfl ?_
    refine g_bipush (v := (8 : Int32)) P0 d1_14 (by rfl) ?_
    refine g_iloadN P0 d1_16 rfl ?_
    refine g_iadd (v := ((8 : Int32) + iv)) P0 d1_17 rfl ?_
    refine g_iushr (v := (XT.ushr sh ((8 : Int32) + iv))) P0 d1_18 rfl ?_
    refine g_iconst (v := (1 : Int32)) P0 d1_19 (by rfl) ?_
    refine g_iand (v := ((XT.ushr sh ((8 : Int32) + iv)) &&& (1 : Int32))) P0 d1_20 rfl ?_
    by_cases hqu : ((XT.ushr sh ((8 : Int32) + iv)) &&& (1 : Int32)) = (0 : Int32)
    · refine g_ifYes P0 d1_21 ((if0 _ _).trans (teq hqu).1) 28 (by decide) (by decide) ?_
      refine g_iconst (v := (0 : Int32)) P0 d1_28 (by rfl) ?_
      refine g_istore P0 d1_29 #[.val (.ref tx), .val (.int (iN p0)), .val (.ref xp), .val (.int iv), .val (.int sh), .val (.int by_), .val (.int kv), .val (.int (1 : Int32)), .val (.int (3 : Int32)), .val (.int (0 : Int32)), .unset, .unset, .unset] rfl ?_
      refine g_iloadN P0 d1_31 rfl ?_
      refine g_iload P0 d1_32 rfl ?_
      refine g_iconst (v := (1 : Int32)) P0 d1_34 (by rfl) ?_
      refine g_isub (v := (kv - (1 : Int32))) P0 d1_35 rfl ?_
      refine g_icmpNo P0 d1_36 (teq hl).2 ?_
      refine g_iconst (v := (1 : Int32)) P0 d1_39 (by rfl) ?_
      refine g_goto P0 d1_40 44 (by decide) (by decide) ?_
      refine g_istore P0 d1_44 #[.val (.ref tx), .val (.int (iN p0)), .val (.ref xp), .val (.int iv), .val (.int sh), .val (.int by_), .val (.int kv), .val (.int (1 : Int32)), .val (.int (3 : Int32)), .val (.int (0 : Int32)), .val (.int (1 : Int32)), .unset, .unset] rfl ?_
      refine g_iloadN P0 d1_46 rfl ?_
      refine g_istore P0 d1_47 #[.val (.ref tx), .val (.int (iN p0)), .val (.ref xp), .val (.int iv), .val (.int sh), .val (.int by_), .val (.int kv), .val (.int (1 : Int32)), .val (.int (3 : Int32)), .val (.int (0 : Int32)), .val (.int (1 : Int32)), .val (.int (iN p0)), .unset] rfl ?_
      refine g_iload P0 d1_49 rfl ?_
      refine g_ifYes P0 d1_51 (by decide) 66 (by decide) (by decide) ?_
      refine g_iload P0 d1_66 rfl ?_
      refine g_istore P0 d1_68 #[.val (.ref tx), .val (.int (iN p0)), .val (.ref xp), .val (.int iv), .val (.int sh), .val (.int by_), .val (.int kv), .val (.int (1 : Int32)), .val (.int (3 : Int32)), .val (.int (0 : Int32)), .val (.int (1 : Int32)), .val (.int (iN p0)), .val (.int (iN p0))] rfl ?_
      refine g_iload P0 d1_70 rfl ?_
      refine g_ifNo P0 d1_72 (by decide) ?_
      refine g_aloadN P0 d1_75 rfl rfl ?_
      refine g_iload P0 d1_76 rfl ?_
      refine g_iload P0 d1_78 rfl ?_
      refine g_bipush (v := (127 : Int32)) P0 d1_80 (by rfl) ?_
      refine g_iand (v := (by_ &&& (127 : Int32))) P0 d1_82 rfl ?_
      refine g_iload P0 d1_83 rfl ?_
      refine g_iload P0 d1_85 rfl ?_
      refine g_iconst (v := (1 : Int32)) P0 d1_87 (by rfl) ?_
      refine g_icmpYes P0 d1_88 (by decide) 95 (by decide) (by decide) ?_
      refine g_iconst (v := (0 : Int32)) P0 d1_95 (by rfl) ?_
      refine g_static P0 [(.ref tx), (.int (iN p0)), (.int (by_ &&& (127 : Int32))), (.int (0 : Int32)), (.int (0 : Int32))] (rest := []) (W := 0) d1_96 (hw _ (List.mem_of_getElem? (i := 78) rfl)) (hw _ (List.mem_of_getElem? (i := 79) rfl)) (hw _ (List.mem_of_getElem? (i := 4) rfl)) (hw _ (List.mem_of_getElem? (i := 80) rfl)) (by decide) (rm_putu0 l Z a0 hw _ n0 tx kt t p0 (by_ &&& (127 : Int32)) trivial AT (by first | omega | (simp only [List.length_set]; omega)) hB (m127 _) (by omega) ge) pd_7 rfl rfl rfl rfl (by decide) (by decide) (by decide) (by decide) fun v307 T307 h307 P307 q307 => ?_
      obtain ⟨d0, rfl, AT, x0, y0, z0, w0, v0, K'⟩ := q307
      have K := K.trans K' (fun x hx => Or.inl (by simp at hx; simp [hx]))
      have AX := AX.keep K' (ninS xt nin0)
      have hB0 := hB.set (i := p0) v0
      refine g_istore P307 d1_99 #[.val (.ref tx), .val (.int (iN p0)), .val (.ref xp), .val (.int iv), .val (.int sh), .val (.int by_), .val (.int kv), .val (.int (1 : Int32)), .val (.int (3 : Int32)), .val (.int (0 : Int32)), .val (.int (1 : Int32)), .val (.int (iN (p0 + 1))), .val (.int (iN p0))] rfl ?_
      refine g_iload P307 d1_101 rfl ?_
      refine g_iconst (v := (1 : Int32)) P307 d1_103 (by rfl) ?_
      refine g_icmpNo P307 d1_104 (by decide) ?_
      refine g_aloadN P307 d1_107 rfl rfl ?_
      refine g_iload P307 d1_108 rfl ?_
      refine g_iload P307 d1_110 rfl ?_
      refine g_bipush (v := (8 : Int32)) P307 d1_112 (by rfl) ?_
      refine g_iushr (v := (XT.ushr by_ (8 : Int32))) P307 d1_114 rfl ?_
      refine g_bipush (v := (127 : Int32)) P307 d1_115 (by rfl) ?_
      refine g_iand (v := ((XT.ushr by_ (8 : Int32)) &&& (127 : Int32))) P307 d1_117 rfl ?_
      refine g_iload P307 d1_118 rfl ?_
      refine g_iload P307 d1_120 rfl ?_
      refine g_iconst (v := (2 : Int32)) P307 d1_122 (by rfl) ?_
      refine g_icmpYes P307 d1_123 (by decide) 130 (by decide) (by decide) ?_
      refine g_iconst (v := (0 : Int32)) P307 d1_130 (by rfl) ?_
      refine g_static P307 [(.ref tx), (.int (iN (p0 + 1))), (.int ((XT.ushr by_ (8 : Int32)) &&& (127 : Int32))), (.int (0 : Int32)), (.int (0 : Int32))] (rest := []) (W := 0) d1_131 (hw _ (List.mem_of_getElem? (i := 78) rfl)) (hw _ (List.mem_of_getElem? (i := 79) rfl)) (hw _ (List.mem_of_getElem? (i := 4) rfl)) (hw _ (List.mem_of_getElem? (i := 80) rfl)) (by decide) (rm_putu0 l Z a0 hw _ n0 tx kt (t.set p0 d0) (p0 + 1) ((XT.ushr by_ (8 : Int32)) &&& (127 : Int32)) trivial AT (by first | omega | (simp only [List.length_set]; omega)) hB0 (m127 _) (by omega) ge) pd_7 rfl rfl rfl rfl (by decide) (by decide) (by decide) (by decide) fun v308 T308 h308 P308 q308 => ?_
      obtain ⟨d1, rfl, AT, x1, y1, z1, w1, v1, K'⟩ := q308
      have K := K.trans K' (fun x hx => Or.inl (by simp at hx; simp [hx]))
      have AX := AX.keep K' (ninS xt nin0)
      have hB1 := hB0.set (i := (p0 + 1)) v1
      refine g_istore P308 d1_134 #[.val (.ref tx), .val (.int (iN p0)), .val (.ref xp), .val (.int iv), .val (.int sh), .val (.int by_), .val (.int kv), .val (.int (1 : Int32)), .val (.int (3 : Int32)), .val (.int (0 : Int32)), .val (.int (1 : Int32)), .val (.int (iN (p0 + 1 + 1))), .val (.int (iN p0))] rfl ?_
      refine g_iload P308 d1_136 rfl ?_
      refine g_iconst (v := (2 : Int32)) P308 d1_138 (by rfl) ?_
      refine g_icmpNo P308 d1_139 (by decide) ?_
      refine g_aloadN P308 d1_142 rfl rfl ?_
      refine g_iload P308 d1_143 rfl ?_
      refine g_iload P308 d1_145 rfl ?_
      refine g_bipush (v := (16 : Int32)) P308 d1_147 (by rfl) ?_
      refine g_iushr (v := (XT.ushr by_ (16 : Int32))) P308 d1_149 rfl ?_
      refine g_bipush (v := (127 : Int32)) P308 d1_150 (by rfl) ?_
      refine g_iand (v := ((XT.ushr by_ (16 : Int32)) &&& (127 : Int32))) P308 d1_152 rfl ?_
      refine g_iload P308 d1_153 rfl ?_
      refine g_iconst (v := (1 : Int32)) P308 d1_155 (by rfl) ?_
      refine g_static P308 [(.ref tx), (.int (iN (p0 + 1 + 1))), (.int ((XT.ushr by_ (16 : Int32)) &&& (127 : Int32))), (.int (0 : Int32)), (.int (1 : Int32))] (rest := []) (W := 0) d1_156 (hw _ (List.mem_of_getElem? (i := 78) rfl)) (hw _ (List.mem_of_getElem? (i := 79) rfl)) (hw _ (List.mem_of_getElem? (i := 4) rfl)) (hw _ (List.mem_of_getElem? (i := 80) rfl)) (by decide) (rm_putu1 l Z a0 hw _ n0 tx kt ((t.set p0 d0).set (p0 + 1) d1) (p0 + 2) ((XT.ushr by_ (16 : Int32)) &&& (127 : Int32)) trivial AT (by first | omega | (simp only [List.length_set]; omega)) hB1 (m127 _) (by omega) ge) pd_7 rfl rfl rfl rfl (by decide) (by decide) (by decide) (by decide) fun v309 T309 h309 P309 q309 => ?_
      obtain ⟨d2, rfl, AT, x2, y2, z2, w2, v2, K'⟩ := q309
      have K := K.trans K' (fun x hx => Or.inl (by simp at hx; simp [hx]))
      have AX := AX.keep K' (ninS xt nin0)
      have hB2 := hB1.set (i := (p0 + 2)) v2
      refine g_istore P309 d1_159 #[.val (.ref tx), .val (.int (iN p0)), .val (.ref xp), .val (.int iv), .val (.int sh), .val (.int by_), .val (.int kv), .val (.int (1 : Int32)), .val (.int (3 : Int32)), .val (.int (0 : Int32)), .val (.int (1 : Int32)), .val (.int (iN (p0 + 2 + 1))), .val (.int (iN p0))] rfl ?_
      refine g_iload P309 d1_161 rfl ?_
      refine g_ifNo P309 d1_163 (by decide) ?_
      refine g_iload P309 d1_166 rfl ?_
      refine g_ifNo P309 d1_168 (by decide) ?_
      refine g_iload P309 d1_171 rfl ?_
      refine g_ifYes P309 d1_173 (by decide) 193 (by decide) (by decide) ?_
      refine g_aloadN P309 d1_193 rfl rfl ?_
      refine g_iloadN P309 d1_194 rfl ?_
      refine g_bipush (v := (32 : Int32)) P309 d1_195 (by rfl) ?_
      refine g_iload P309 d1_197 rfl ?_
      refine g_isub (v := ((32 : Int32) - (iN p0))) P309 d1_199 rfl ?_
      have Zc : Zs (((t.set p0 d0).set (p0 + 1) d1).set (p0 + 2) d2) (p0 + 3) 32 := ((((hZ.sub (by omega) (Nat.le_refl _)).set (i := p0) (v := d0) (by omega)).set (i := (p0 + 1)) (v := d1) (by omega)).set (i := (p0 + 2)) (v := d2) (by omega))
      have hseg : PSeg (((t.set p0 d0).set (p0 + 1) d1).set (p0 + 2) d2) p0 32 := (pseg_put (by rw [List.getElem?_set_ne (by omega), List.getElem?_set_ne (by omega), List.getElem?_set_self (by first | omega | (simp only [List.length_set]; omega))]) x0 y0 z0 (fun _ => ⟨by omega, d1, (by rw [List.getElem?_set_ne (by omega), List.getElem?_set_self (by first | omega | (simp only [List.length_set]; omega))]), y1⟩) (pseg_put (by rw [List.getElem?_set_ne (by omega), List.getElem?_set_self (by first | omega | (simp only [List.length_set]; omega))]) x1 y1 z1 (fun _ => ⟨by omega, d2, (by rw [List.getElem?_set_self (by first | omega | (simp only [List.length_set]; omega))]), y2⟩) (pseg_put (by rw [List.getElem?_set_self (by first | omega | (simp only [List.length_set]; omega))]) x2 y2 z2 (fun q => absurd q (w2 rfl)) (zs_p Zc (by omega)))))
      have ltn : (((t.set p0 d0).set (p0 + 1) d1).set (p0 + 2) d2).length = 32 := by first | omega | (simp only [List.length_set]; omega)
      refine g_iastore (i := xi) P309 d1_200 AX IX (by rw [List.length_map]; omega) gx fun T310 h310 P310 W310 AX => ?_
      rw [map_set'] at AX
      have K := K.wr W310 (Or.inl (by simp))
      have AT := AT.other W310 tx_
      refine g_bipush (v := (32 : Int32)) P310 d1_201 (by rfl) ?_
      exact g_retI P310 d1_203 (by decide) (by decide) ⟨_, p0, 32, rfl, AT, ltn, hB2, AX, Or.inr ⟨rfl, hseg, rfl⟩, fun i hi => by rw [List.getElem?_set_ne (by omega), List.getElem?_set_ne (by omega), List.getElem?_set_ne (by omega)], K⟩
    · refine g_ifNo P0 d1_21 ((if0 _ _).trans (feq hqu).1) ?_
      refine g_iconst (v := (1 : Int32)) P0 d1_24 (by rfl) ?_
      refine g_goto P0 d1_25 29 (by decide) (by decide) ?_
      refine g_istore P0 d1_29 #[.val (.ref tx), .val (.int (iN p0)), .val (.ref xp), .val (.int iv), .val (.int sh), .val (.int by_), .val (.int kv), .val (.int (1 : Int32)), .val (.int (3 : Int32)), .val (.int (1 : Int32)), .unset, .unset, .unset] rfl ?_
      refine g_iloadN P0 d1_31 rfl ?_
      refine g_iload P0 d1_32 rfl ?_
      refine g_iconst (v := (1 : Int32)) P0 d1_34 (by rfl) ?_
      refine g_isub (v := (kv - (1 : Int32))) P0 d1_35 rfl ?_
      refine g_icmpNo P0 d1_36 (teq hl).2 ?_
      refine g_iconst (v := (1 : Int32)) P0 d1_39 (by rfl) ?_
      refine g_goto P0 d1_40 44 (by decide) (by decide) ?_
      refine g_istore P0 d1_44 #[.val (.ref tx), .val (.int (iN p0)), .val (.ref xp), .val (.int iv), .val (.int sh), .val (.int by_), .val (.int kv), .val (.int (1 : Int32)), .val (.int (3 : Int32)), .val (.int (1 : Int32)), .val (.int (1 : Int32)), .unset, .unset] rfl ?_
      refine g_iloadN P0 d1_46 rfl ?_
      refine g_istore P0 d1_47 #[.val (.ref tx), .val (.int (iN p0)), .val (.ref xp), .val (.int iv), .val (.int sh), .val (.int by_), .val (.int kv), .val (.int (1 : Int32)), .val (.int (3 : Int32)), .val (.int (1 : Int32)), .val (.int (1 : Int32)), .val (.int (iN p0)), .unset] rfl ?_
      refine g_iload P0 d1_49 rfl ?_
      refine g_ifNo P0 d1_51 (by decide) ?_
      refine g_aloadN P0 d1_54 rfl rfl ?_
      refine g_iload P0 d1_55 rfl ?_
      refine g_bipush (v := (34 : Int32)) P0 d1_57 (by rfl) ?_
      refine g_bastoreB (i := p0) (w := 34) P0 d1_59 AT (ix_iN (by omega)) (by simp only [List.length_map, List.length_set]; omega) ge (by decide) fun T311 h311 P311 W311 AT => ?_
      rw [map_set'] at AT
      have K := K.wr W311 (Or.inl (by simp))
      have AX := AX.other W311 xt
      obtain ⟨tc, htc⟩ : ∃ tc, tc = t.set p0 34 := ⟨_, rfl⟩
      rw [← htc] at AT
      have lt : tc.length = 32 := by rw [htc, List.length_set]; exact lt
      have hB : AllB tc := by rw [htc]; exact hB.set (by decide)
      have Zc : Zs tc (p0 + 1) 32 := by rw [htc]; exact (hZ.sub (by omega) (Nat.le_refl _)).set (by omega)
      have LOW : ∀ i, i < p0 → tc[i]? = t[i]? := fun i hi => by rw [htc, List.getElem?_set_ne (by omega)]
      have H34 : tc[p0]? = some 34 := by rw [htc, List.getElem?_set_self (by omega)]
      have HQ : QSeg tc (p0 + 1) (p0 + 1) := QSeg.nil
      refine g_iload P311 d1_60 rfl ?_
      refine g_iconst (v := (1 : Int32)) P311 d1_62 (by rfl) ?_
      refine g_iadd (v := (iN (p0 + 1))) P311 d1_63 (iN_add _ 1) ?_
      refine g_istore P311 d1_64 #[.val (.ref tx), .val (.int (iN p0)), .val (.ref xp), .val (.int iv), .val (.int sh), .val (.int by_), .val (.int kv), .val (.int (1 : Int32)), .val (.int (3 : Int32)), .val (.int (1 : Int32)), .val (.int (1 : Int32)), .val (.int (iN (p0 + 1))), .unset] rfl ?_
      refine g_iload P311 d1_66 rfl ?_
      refine g_istore P311 d1_68 #[.val (.ref tx), .val (.int (iN p0)), .val (.ref xp), .val (.int iv), .val (.int sh), .val (.int by_), .val (.int kv), .val (.int (1 : Int32)), .val (.int (3 : Int32)), .val (.int (1 : Int32)), .val (.int (1 : Int32)), .val (.int (iN (p0 + 1))), .val (.int (iN (p0 + 1)))] rfl ?_
      refine g_iload P311 d1_70 rfl ?_
      refine g_ifNo P311 d1_72 (by decide) ?_
      refine g_aloadN P311 d1_75 rfl rfl ?_
      refine g_iload P311 d1_76 rfl ?_
      refine g_iload P311 d1_78 rfl ?_
      refine g_bipush (v := (127 : Int32)) P311 d1_80 (by rfl) ?_
      refine g_iand (v := (by_ &&& (127 : Int32))) P311 d1_82 rfl ?_
      refine g_iload P311 d1_83 rfl ?_
      refine g_iload P311 d1_85 rfl ?_
      refine g_iconst (v := (1 : Int32)) P311 d1_87 (by rfl) ?_
      refine g_icmpYes P311 d1_88 (by decide) 95 (by decide) (by decide) ?_
      refine g_iconst (v := (0 : Int32)) P311 d1_95 (by rfl) ?_
      refine g_static P311 [(.ref tx), (.int (iN (p0 + 1))), (.int (by_ &&& (127 : Int32))), (.int (1 : Int32)), (.int (0 : Int32))] (rest := []) (W := 0) d1_96 (hw _ (List.mem_of_getElem? (i := 78) rfl)) (hw _ (List.mem_of_getElem? (i := 79) rfl)) (hw _ (List.mem_of_getElem? (i := 4) rfl)) (hw _ (List.mem_of_getElem? (i := 80) rfl)) (by decide) (rm_putq l Z a0 hw _ n0 tx kt tc (p0 + 1) (by_ &&& (127 : Int32)) (0 : Int32) trivial AT lt hB (m127 _) (by omega) ge) pd_7 rfl rfl rfl rfl (by decide) (by decide) (by decide) (by decide) fun v312 T312 h312 P312 q312 => ?_
      obtain ⟨t0, q0, rfl, AT, lt, ha0, hb0, hlow, hhigh, hQ, hB, K'⟩ := q312
      have K := K.trans K' (fun x hx => Or.inl (by simp at hx; simp [hx]))
      have AX := AX.keep K' (ninS xt nin0)
      have HQ := (HQ.congr hlow).trans hQ
      have Zc : Zs t0 q0 32 := fun i h1 h2 => (hhigh i h1).trans (Zc i (by omega) h2)
      have LOW : ∀ i, i < p0 → t0[i]? = t[i]? := fun i hi => (hlow i (by omega)).trans (LOW i hi)
      have H34 := (hlow p0 (by omega)).trans H34
      refine g_istore P312 d1_99 #[.val (.ref tx), .val (.int (iN p0)), .val (.ref xp), .val (.int iv), .val (.int sh), .val (.int by_), .val (.int kv), .val (.int (1 : Int32)), .val (.int (3 : Int32)), .val (.int (1 : Int32)), .val (.int (1 : Int32)), .val (.int (iN q0)), .val (.int (iN (p0 + 1)))] rfl ?_
      refine g_iload P312 d1_101 rfl ?_
      refine g_iconst (v := (1 : Int32)) P312 d1_103 (by rfl) ?_
      refine g_icmpNo P312 d1_104 (by decide) ?_
      refine g_aloadN P312 d1_107 rfl rfl ?_
      refine g_iload P312 d1_108 rfl ?_
      refine g_iload P312 d1_110 rfl ?_
      refine g_bipush (v := (8 : Int32)) P312 d1_112 (by rfl) ?_
      refine g_iushr (v := (XT.ushr by_ (8 : Int32))) P312 d1_114 rfl ?_
      refine g_bipush (v := (127 : Int32)) P312 d1_115 (by rfl) ?_
      refine g_iand (v := ((XT.ushr by_ (8 : Int32)) &&& (127 : Int32))) P312 d1_117 rfl ?_
      refine g_iload P312 d1_118 rfl ?_
      refine g_iload P312 d1_120 rfl ?_
      refine g_iconst (v := (2 : Int32)) P312 d1_122 (by rfl) ?_
      refine g_icmpYes P312 d1_123 (by decide) 130 (by decide) (by decide) ?_
      refine g_iconst (v := (0 : Int32)) P312 d1_130 (by rfl) ?_
      refine g_static P312 [(.ref tx), (.int (iN q0)), (.int ((XT.ushr by_ (8 : Int32)) &&& (127 : Int32))), (.int (1 : Int32)), (.int (0 : Int32))] (rest := []) (W := 0) d1_131 (hw _ (List.mem_of_getElem? (i := 78) rfl)) (hw _ (List.mem_of_getElem? (i := 79) rfl)) (hw _ (List.mem_of_getElem? (i := 4) rfl)) (hw _ (List.mem_of_getElem? (i := 80) rfl)) (by decide) (rm_putq l Z a0 hw _ n0 tx kt t0 q0 ((XT.ushr by_ (8 : Int32)) &&& (127 : Int32)) (0 : Int32) trivial AT lt hB (m127 _) (by omega) ge) pd_7 rfl rfl rfl rfl (by decide) (by decide) (by decide) (by decide) fun v313 T313 h313 P313 q313 => ?_
      obtain ⟨t1, q1, rfl, AT, lt, ha1, hb1, hlow, hhigh, hQ, hB, K'⟩ := q313
      have K := K.trans K' (fun x hx => Or.inl (by simp at hx; simp [hx]))
      have AX := AX.keep K' (ninS xt nin0)
      have HQ := (HQ.congr hlow).trans hQ
      have Zc : Zs t1 q1 32 := fun i h1 h2 => (hhigh i h1).trans (Zc i (by omega) h2)
      have LOW : ∀ i, i < p0 → t1[i]? = t[i]? := fun i hi => (hlow i (by omega)).trans (LOW i hi)
      have H34 := (hlow p0 (by omega)).trans H34
      refine g_istore P313 d1_134 #[.val (.ref tx), .val (.int (iN p0)), .val (.ref xp), .val (.int iv), .val (.int sh), .val (.int by_), .val (.int kv), .val (.int (1 : Int32)), .val (.int (3 : Int32)), .val (.int (1 : Int32)), .val (.int (1 : Int32)), .val (.int (iN q1)), .val (.int (iN (p0 + 1)))] rfl ?_
      refine g_iload P313 d1_136 rfl ?_
      refine g_iconst (v := (2 : Int32)) P313 d1_138 (by rfl) ?_
      refine g_icmpNo P313 d1_139 (by decide) ?_
      refine g_aloadN P313 d1_142 rfl rfl ?_
      refine g_iload P313 d1_143 rfl ?_
      refine g_iload P313 d1_145 rfl ?_
      refine g_bipush (v := (16 : Int32)) P313 d1_147 (by rfl) ?_
      refine g_iushr (v := (XT.ushr by_ (16 : Int32))) P313 d1_149 rfl ?_
      refine g_bipush (v := (127 : Int32)) P313 d1_150 (by rfl) ?_
      refine g_iand (v := ((XT.ushr by_ (16 : Int32)) &&& (127 : Int32))) P313 d1_152 rfl ?_
      refine g_iload P313 d1_153 rfl ?_
      refine g_iconst (v := (1 : Int32)) P313 d1_155 (by rfl) ?_
      refine g_static P313 [(.ref tx), (.int (iN q1)), (.int ((XT.ushr by_ (16 : Int32)) &&& (127 : Int32))), (.int (1 : Int32)), (.int (1 : Int32))] (rest := []) (W := 0) d1_156 (hw _ (List.mem_of_getElem? (i := 78) rfl)) (hw _ (List.mem_of_getElem? (i := 79) rfl)) (hw _ (List.mem_of_getElem? (i := 4) rfl)) (hw _ (List.mem_of_getElem? (i := 80) rfl)) (by decide) (rm_putq l Z a0 hw _ n0 tx kt t1 q1 ((XT.ushr by_ (16 : Int32)) &&& (127 : Int32)) (1 : Int32) trivial AT lt hB (m127 _) (by omega) ge) pd_7 rfl rfl rfl rfl (by decide) (by decide) (by decide) (by decide) fun v314 T314 h314 P314 q314 => ?_
      obtain ⟨t2, q2, rfl, AT, lt, ha2, hb2, hlow, hhigh, hQ, hB, K'⟩ := q314
      have K := K.trans K' (fun x hx => Or.inl (by simp at hx; simp [hx]))
      have AX := AX.keep K' (ninS xt nin0)
      have HQ := (HQ.congr hlow).trans hQ
      have Zc : Zs t2 q2 32 := fun i h1 h2 => (hhigh i h1).trans (Zc i (by omega) h2)
      have LOW : ∀ i, i < p0 → t2[i]? = t[i]? := fun i hi => (hlow i (by omega)).trans (LOW i hi)
      have H34 := (hlow p0 (by omega)).trans H34
      refine g_istore P314 d1_159 #[.val (.ref tx), .val (.int (iN p0)), .val (.ref xp), .val (.int iv), .val (.int sh), .val (.int by_), .val (.int kv), .val (.int (1 : Int32)), .val (.int (3 : Int32)), .val (.int (1 : Int32)), .val (.int (1 : Int32)), .val (.int (iN q2)), .val (.int (iN (p0 + 1)))] rfl ?_
      refine g_iload P314 d1_161 rfl ?_
      refine g_ifNo P314 d1_163 (by decide) ?_
      refine g_iload P314 d1_166 rfl ?_
      refine g_ifNo P314 d1_168 (by decide) ?_
      refine g_iload P314 d1_171 rfl ?_
      refine g_ifNo P314 d1_173 (by decide) ?_
      refine g_aloadN P314 d1_176 rfl rfl ?_
      refine g_bipush (v := (31 : Int32)) P314 d1_177 (by rfl) ?_
      refine g_bipush (v := (34 : Int32)) P314 d1_179 (by rfl) ?_
      refine g_bastoreB (i := 31) (w := 34) P314 d1_181 AT (by decide) (by simp only [List.length_map, List.length_set]; omega) ge (by decide) fun T315 h315 P315 W315 AT => ?_
      rw [map_set'] at AT
      have K := K.wr W315 (Or.inl (by simp))
      have AX := AX.other W315 xt
      refine g_aloadN P315 d1_182 rfl rfl ?_
      refine g_iloadN P315 d1_183 rfl ?_
      refine g_bipush (v := (31 : Int32)) P315 d1_184 (by rfl) ?_
      refine g_iload P315 d1_186 rfl ?_
      refine g_isub (v := ((31 : Int32) - (iN (p0 + 1)))) P315 d1_188 rfl ?_
      refine g_iastore (i := xi) P315 d1_189 AX IX (by rw [List.length_map]; omega) gx fun T316 h316 P316 W316 AX => ?_
      rw [map_set'] at AX
      have K := K.wr W316 (Or.inl (by simp))
      have AT := AT.other W316 tx_
      refine g_goto P316 d1_190 201 (by decide) (by decide) ?_
      refine g_bipush (v := (32 : Int32)) P316 d1_201 (by rfl) ?_
      exact g_retI P316 d1_203 (by decide) (by decide) ⟨_, p0 + 1, 31, rfl, AT, by rw [List.length_set]; exact lt, hB.set (by decide), AX, Or.inl ⟨by rw [List.getElem?_set_ne (by omega)]; exact H34, rfl, (HQ.trans (zs_q (Zc.sub (Nat.le_refl _) (by omega)) (by omega))).congr (fun i hi => by rw [List.getElem?_set_ne (by omega)]), by rw [List.getElem?_set_self (by omega)], rfl⟩, fun i hi => by rw [List.getElem?_set_ne (by omega)]; exact LOW i hi, K⟩
theorem FieldAt.le {t : List Int32} {b s e f : Nat} (F : FieldAt t b s e f) : b ≤ f := by
  rcases F with ⟨-, h2, h3, -, h5⟩ | ⟨h1, h2, h3⟩
  · have := h3.le; omega
  · have := h2.le; omega
theorem zs_rep : Zs (List.replicate 32 (122 : Int32)) 0 32 := fun i _ h => by rw [List.getElem?_replicate, if_pos h]
theorem allB_rep : AllB (List.replicate 32 (122 : Int32)) := fun i b h => by rw [List.getElem?_replicate] at h; split at h <;> cases h; decide
theorem in2 {a b : Addr} {n : Nat} (h1 : n ≤ a) (h2 : n ≤ b) : ∀ x ∈ [a, b], n ≤ x := fun x hx => by
  rcases List.mem_cons.mp hx with rfl | hx
  · exact h1
  · cases List.mem_singleton.mp hx; exact h2
set_option maxRecDepth 65536 in
set_option maxHeartbeats 40000000 in
theorem rm_law (l : Launch) (Z : State) (a0 : Array Value) (hw : ∀ d ∈ tables_1, d.before a0 Z = true) (h0 : Heap) (n0 : Nat) (bm : Addr) (kb : ClassId) (vb : List Value) (p1 p2 p3 p4 : Int32) (Z0 : n0 ≤ h0.size) (S_BOM : Sta Z h0 "com/example/lintel/lintel/io/CsvReader" "BYTE_ORDER_MARK" "[B" (.ref bm)) (AM : AL Z h0 bm kb .byte vb) (lb : vb.length.toInt32 = 3) (gm : vb[0]? = some (.int (-17))) :
    Met l Z x code maxLocals ret room_1 n0 #[(.int p1), (.int p2), (.int p3), (.int p4)] h0 (fun v _ => v = some (.int 1)) := by
  refine Met.intro (by decide +kernel) ?_
  intro p e s m below meth cc T0 P0
  refine Go.cast (g' := mkF m 0 #[.val (.int p1), .val (.int p2), .val (.int p3), .val (.int p4), .unset, .unset, .unset, .unset, .unset, .unset, .unset, .unset] []) (by first | (simp [entryFrame, mkF, argsToLocals, Value.category, maxLocals]; done) | rfl) ?_
  have J : ∀ (kv tv ae : Int32), (kv = 1 ∨ kv = 2 ∨ kv = 3) → ((tv = 0 ∧ ae = 0) ∨ (tv = 1 ∧ ae = 0) ∨ (tv = 2 ∧ ae = 1) ∨ (tv = 3 ∧ ae = 1)) → Go p e below (Done s room_1 n0 (fun v _ => v = some (.int 1))) (T0.setTop (mkF m 36 #[.val (.int p1), .val (.int p2), .val (.int p3), .val (.int p4), .val (.int kv), .val (.int tv), .val (.int ae), .unset, .unset, .unset, .unset, .unset] [])) := by
    intro kv tv ae hk ht
    refine g_bipush (v := (32 : Int32)) P0 d0_36 (by rfl) ?_
    refine g_newarray P0 d0_38 (hw _ (List.mem_of_getElem? (i := 0) rfl)) (by decide) 32 (by decide) (by decide) (by decide) (by decide) "[B" (by decide) fun T317 h317 tx kt P317 e317 E317 AT _ => ?_
    have X := E317
    have gt : h0.size ≤ tx := by omega
    have ge : n0 ≤ tx := by omega
    have AT : AL Z h317 tx kt .byte [(.int 0), (.int 0), (.int 0), (.int 0), (.int 0), (.int 0), (.int 0), (.int 0), (.int 0), (.int 0), (.int 0), (.int 0), (.int 0), (.int 0), (.int 0), (.int 0), (.int 0), (.int 0), (.int 0), (.int 0), (.int 0), (.int 0), (.int 0), (.int 0), (.int 0), (.int 0), (.int 0), (.int 0), (.int 0), (.int 0), (.int 0), (.int 0)] := AT
    refine g_dup P317 d0_40 rfl ?_
    refine g_iconst (v := (0 : Int32)) P317 d0_41 (by rfl) ?_
    refine g_bipush (v := (122 : Int32)) P317 d0_42 (by rfl) ?_
    refine g_bastoreB (i := 0) (w := 122) P317 d0_44 AT (by decide) (dT rfl) ge (by decide) fun T318 h318 P318 W318 AT => ?_
    have AT : AL Z h318 tx kt .byte [(.int 122), (.int 0), (.int 0), (.int 0), (.int 0), (.int 0), (.int 0), (.int 0), (.int 0), (.int 0), (.int 0), (.int 0), (.int 0), (.int 0), (.int 0), (.int 0), (.int 0), (.int 0), (.int 0), (.int 0), (.int 0), (.int 0), (.int 0), (.int 0), (.int 0), (.int 0), (.int 0), (.int 0), (.int 0), (.int 0), (.int 0), (.int 0)] := AT
    have X := ext_wr X W318 gt
    refine g_dup P318 d0_45 rfl ?_
    refine g_iconst (v := (1 : Int32)) P318 d0_46 (by rfl) ?_
    refine g_bipush (v := (122 : Int32)) P318 d0_47 (by rfl) ?_
    refine g_bastoreB (i := 1) (w := 122) P318 d0_49 AT (by decide) (dT rfl) ge (by decide) fun T319 h319 P319 W319 AT => ?_
    have AT : AL Z h319 tx kt .byte [(.int 122), (.int 122), (.int 0), (.int 0), (.int 0), (.int 0), (.int 0), (.int 0), (.int 0), (.int 0), (.int 0), (.int 0), (.int 0), (.int 0), (.int 0), (.int 0), (.int 0), (.int 0), (.int 0), (.int 0), (.int 0), (.int 0), (.int 0), (.int 0), (.int 0), (.int 0), (.int 0), (.int 0), (.int 0), (.int 0), (.int 0), (.int 0)] := AT
    have X := ext_wr X W319 gt
    refine g_dup P319 d0_50 rfl ?_
    refine g_iconst (v := (2 : Int32)) P319 d0_51 (by rfl) ?_
    refine g_bipush (v := (122 : Int32)) P319 d0_52 (by rfl) ?_
    refine g_bastoreB (i := 2) (w := 122) P319 d0_54 AT (by decide) (dT rfl) ge (by decide) fun T320 h320 P320 W320 AT => ?_
    have AT : AL Z h320 tx kt .byte [(.int 122), (.int 122), (.int 122), (.int 0), (.int 0), (.int 0), (.int 0), (.int 0), (.int 0), (.int 0), (.int 0), (.int 0), (.int 0), (.int 0), (.int 0), (.int 0), (.int 0), (.int 0), (.int 0), (.int 0), (.int 0), (.int 0), (.int 0), (.int 0), (.int 0), (.int 0), (.int 0), (.int 0), (.int 0), (.int 0), (.int 0), (.int 0)] := AT
    have X := ext_wr X W320 gt
    refine g_dup P320 d0_55 rfl ?_
    refine g_iconst (v := (3 : Int32)) P320 d0_56 (by rfl) ?_
    refine g_bipush (v := (122 : Int32)) P320 d0_57 (by rfl) ?_
    refine g_bastoreB (i := 3) (w := 122) P320 d0_59 AT (by decide) (dT rfl) ge (by decide) fun T321 h321 P321 W321 AT => ?_
    have AT : AL Z h321 tx kt .byte [(.int 122), (.int 122), (.int 122), (.int 122), (.int 0), (.int 0), (.int 0), (.int 0), (.int 0), (.int 0), (.int 0), (.int 0), (.int 0), (.int 0), (.int 0), (.int 0), (.int 0), (.int 0), (.int 0), (.int 0), (.int 0), (.int 0), (.int 0), (.int 0), (.int 0), (.int 0), (.int 0), (.int 0), (.int 0), (.int 0), (.int 0), (.int 0)] := AT
    have X := ext_wr X W321 gt
    refine g_dup P321 d0_60 rfl ?_
    refine g_iconst (v := (4 : Int32)) P321 d0_61 (by rfl) ?_
    refine g_bipush (v := (122 : Int32)) P321 d0_62 (by rfl) ?_
    refine g_bastoreB (i := 4) (w := 122) P321 d0_64 AT (by decide) (dT rfl) ge (by decide) fun T322 h322 P322 W322 AT => ?_
    have AT : AL Z h322 tx kt .byte [(.int 122), (.int 122), (.int 122), (.int 122), (.int 122), (.int 0), (.int 0), (.int 0), (.int 0), (.int 0), (.int 0), (.int 0), (.int 0), (.int 0), (.int 0), (.int 0), (.int 0), (.int 0), (.int 0), (.int 0), (.int 0), (.int 0), (.int 0), (.int 0), (.int 0), (.int 0), (.int 0), (.int 0), (.int 0), (.int 0), (.int 0), (.int 0)] := AT
    have X := ext_wr X W322 gt
    refine g_dup P322 d0_65 rfl ?_
    refine g_iconst (v := (5 : Int32)) P322 d0_66 (by rfl) ?_
    refine g_bipush (v := (122 : Int32)) P322 d0_67 (by rfl) ?_
    refine g_bastoreB (i := 5) (w := 122) P322 d0_69 AT (by decide) (dT rfl) ge (by decide) fun T323 h323 P323 W323 AT => ?_
    have AT : AL Z h323 tx kt .byte [(.int 122), (.int 122), (.int 122), (.int 122), (.int 122), (.int 122), (.int 0), (.int 0), (.int 0), (.int 0), (.int 0), (.int 0), (.int 0), (.int 0), (.int 0), (.int 0), (.int 0), (.int 0), (.int 0), (.int 0), (.int 0), (.int 0), (.int 0), (.int 0), (.int 0), (.int 0), (.int 0), (.int 0), (.int 0), (.int 0), (.int 0), (.int 0)] := AT
    have X := ext_wr X W323 gt
    refine g_dup P323 d0_70 rfl ?_
    refine g_bipush (v := (6 : Int32)) P323 d0_71 (by rfl) ?_
    refine g_bipush (v := (122 : Int32)) P323 d0_73 (by rfl) ?_
    refine g_bastoreB (i := 6) (w := 122) P323 d0_75 AT (by decide) (dT rfl) ge (by decide) fun T324 h324 P324 W324 AT => ?_
    have AT : AL Z h324 tx kt .byte [(.int 122), (.int 122), (.int 122), (.int 122), (.int 122), (.int 122), (.int 122), (.int 0), (.int 0), (.int 0), (.int 0), (.int 0), (.int 0), (.int 0), (.int 0), (.int 0), (.int 0), (.int 0), (.int 0), (.int 0), (.int 0), (.int 0), (.int 0), (.int 0), (.int 0), (.int 0), (.int 0), (.int 0), (.int 0), (.int 0), (.int 0), (.int 0)] := AT
    have X := ext_wr X W324 gt
    refine g_dup P324 d0_76 rfl ?_
    refine g_bipush (v := (7 : Int32)) P324 d0_77 (by rfl) ?_
    refine g_bipush (v := (122 : Int32)) P324 d0_79 (by rfl) ?_
    refine g_bastoreB (i := 7) (w := 122) P324 d0_81 AT (by decide) (dT rfl) ge (by decide) fun T325 h325 P325 W325 AT => ?_
    have AT : AL Z h325 tx kt .byte [(.int 122), (.int 122), (.int 122), (.int 122), (.int 122), (.int 122), (.int 122), (.int 122), (.int 0), (.int 0), (.int 0), (.int 0), (.int 0), (.int 0), (.int 0), (.int 0), (.int 0), (.int 0), (.int 0), (.int 0), (.int 0), (.int 0), (.int 0), (.int 0), (.int 0), (.int 0), (.int 0), (.int 0), (.int 0), (.int 0), (.int 0), (.int 0)] := AT
    have X := ext_wr X W325 gt
    refine g_dup P325 d0_82 rfl ?_
    refine g_bipush (v := (8 : Int32)) P325 d0_83 (by rfl) ?_
    refine g_bipush (v := (122 : Int32)) P325 d0_85 (by rfl) ?_
    refine g_bastoreB (i := 8) (w := 122) P325 d0_87 AT (by decide) (dT rfl) ge (by decide) fun T326 h326 P326 W326 AT => ?_
    have AT : AL Z h326 tx kt .byte [(.int 122), (.int 122), (.int 122), (.int 122), (.int 122), (.int 122), (.int 122), (.int 122), (.int 122), (.int 0), (.int 0), (.int 0), (.int 0), (.int 0), (.int 0), (.int 0), (.int 0), (.int 0), (.int 0), (.int 0), (.int 0), (.int 0), (.int 0), (.int 0), (.int 0), (.int 0), (.int 0), (.int 0), (.int 0), (.int 0), (.int 0), (.int 0)] := AT
    have X := ext_wr X W326 gt
    refine g_dup P326 d0_88 rfl ?_
    refine g_bipush (v := (9 : Int32)) P326 d0_89 (by rfl) ?_
    refine g_bipush (v := (122 : Int32)) P326 d0_91 (by rfl) ?_
    refine g_bastoreB (i := 9) (w := 122) P326 d0_93 AT (by decide) (dT rfl) ge (by decide) fun T327 h327 P327 W327 AT => ?_
    have AT : AL Z h327 tx kt .byte [(.int 122), (.int 122), (.int 122), (.int 122), (.int 122), (.int 122), (.int 122), (.int 122), (.int 122), (.int 122), (.int 0), (.int 0), (.int 0), (.int 0), (.int 0), (.int 0), (.int 0), (.int 0), (.int 0), (.int 0), (.int 0), (.int 0), (.int 0), (.int 0), (.int 0), (.int 0), (.int 0), (.int 0), (.int 0), (.int 0), (.int 0), (.int 0)] := AT
    have X := ext_wr X W327 gt
    refine g_dup P327 d0_94 rfl ?_
    refine g_bipush (v := (10 : Int32)) P327 d0_95 (by rfl) ?_
    refine g_bipush (v := (122 : Int32)) P327 d0_97 (by rfl) ?_
    refine g_bastoreB (i := 10) (w := 122) P327 d0_99 AT (by decide) (dT rfl) ge (by decide) fun T328 h328 P328 W328 AT => ?_
    have AT : AL Z h328 tx kt .byte [(.int 122), (.int 122), (.int 122), (.int 122), (.int 122), (.int 122), (.int 122), (.int 122), (.int 122), (.int 122), (.int 122), (.int 0), (.int 0), (.int 0), (.int 0), (.int 0), (.int 0), (.int 0), (.int 0), (.int 0), (.int 0), (.int 0), (.int 0), (.int 0), (.int 0), (.int 0), (.int 0), (.int 0), (.int 0), (.int 0), (.int 0), (.int 0)] := AT
    have X := ext_wr X W328 gt
    refine g_dup P328 d0_100 rfl ?_
    refine g_bipush (v := (11 : Int32)) P328 d0_101 (by rfl) ?_
    refine g_bipush (v := (122 : Int32)) P328 d0_103 (by rfl) ?_
    refine g_bastoreB (i := 11) (w := 122) P328 d0_105 AT (by decide) (dT rfl) ge (by decide) fun T329 h329 P329 W329 AT => ?_
    have AT : AL Z h329 tx kt .byte [(.int 122), (.int 122), (.int 122), (.int 122), (.int 122), (.int 122), (.int 122), (.int 122), (.int 122), (.int 122), (.int 122), (.int 122), (.int 0), (.int 0), (.int 0), (.int 0), (.int 0), (.int 0), (.int 0), (.int 0), (.int 0), (.int 0), (.int 0), (.int 0), (.int 0), (.int 0), (.int 0), (.int 0), (.int 0), (.int 0), (.int 0), (.int 0)] := AT
    have X := ext_wr X W329 gt
    refine g_dup P329 d0_106 rfl ?_
    refine g_bipush (v := (12 : Int32)) P329 d0_107 (by rfl) ?_
    refine g_bipush (v := (122 : Int32)) P329 d0_109 (by rfl) ?_
    refine g_bastoreB (i := 12) (w := 122) P329 d0_111 AT (by decide) (dT rfl) ge (by decide) fun T330 h330 P330 W330 AT => ?_
    have AT : AL Z h330 tx kt .byte [(.int 122), (.int 122), (.int 122), (.int 122), (.int 122), (.int 122), (.int 122), (.int 122), (.int 122), (.int 122), (.int 122), (.int 122), (.int 122), (.int 0), (.int 0), (.int 0), (.int 0), (.int 0), (.int 0), (.int 0), (.int 0), (.int 0), (.int 0), (.int 0), (.int 0), (.int 0), (.int 0), (.int 0), (.int 0), (.int 0), (.int 0), (.int 0)] := AT
    have X := ext_wr X W330 gt
    refine g_dup P330 d0_112 rfl ?_
    refine g_bipush (v := (13 : Int32)) P330 d0_113 (by rfl) ?_
    refine g_bipush (v := (122 : Int32)) P330 d0_115 (by rfl) ?_
    refine g_bastoreB (i := 13) (w := 122) P330 d0_117 AT (by decide) (dT rfl) ge (by decide) fun T331 h331 P331 W331 AT => ?_
    have AT : AL Z h331 tx kt .byte [(.int 122), (.int 122), (.int 122), (.int 122), (.int 122), (.int 122), (.int 122), (.int 122), (.int 122), (.int 122), (.int 122), (.int 122), (.int 122), (.int 122), (.int 0), (.int 0), (.int 0), (.int 0), (.int 0), (.int 0), (.int 0), (.int 0), (.int 0), (.int 0), (.int 0), (.int 0), (.int 0), (.int 0), (.int 0), (.int 0), (.int 0), (.int 0)] := AT
    have X := ext_wr X W331 gt
    refine g_dup P331 d0_118 rfl ?_
    refine g_bipush (v := (14 : Int32)) P331 d0_119 (by rfl) ?_
    refine g_bipush (v := (122 : Int32)) P331 d0_121 (by rfl) ?_
    refine g_bastoreB (i := 14) (w := 122) P331 d0_123 AT (by decide) (dT rfl) ge (by decide) fun T332 h332 P332 W332 AT => ?_
    have AT : AL Z h332 tx kt .byte [(.int 122), (.int 122), (.int 122), (.int 122), (.int 122), (.int 122), (.int 122), (.int 122), (.int 122), (.int 122), (.int 122), (.int 122), (.int 122), (.int 122), (.int 122), (.int 0), (.int 0), (.int 0), (.int 0), (.int 0), (.int 0), (.int 0), (.int 0), (.int 0), (.int 0), (.int 0), (.int 0), (.int 0), (.int 0), (.int 0), (.int 0), (.int 0)] := AT
    have X := ext_wr X W332 gt
    refine g_dup P332 d0_124 rfl ?_
    refine g_bipush (v := (15 : Int32)) P332 d0_125 (by rfl) ?_
    refine g_bipush (v := (122 : Int32)) P332 d0_127 (by rfl) ?_
    refine g_bastoreB (i := 15) (w := 122) P332 d0_129 AT (by decide) (dT rfl) ge (by decide) fun T333 h333 P333 W333 AT => ?_
    have AT : AL Z h333 tx kt .byte [(.int 122), (.int 122), (.int 122), (.int 122), (.int 122), (.int 122), (.int 122), (.int 122), (.int 122), (.int 122), (.int 122), (.int 122), (.int 122), (.int 122), (.int 122), (.int 122), (.int 0), (.int 0), (.int 0), (.int 0), (.int 0), (.int 0), (.int 0), (.int 0), (.int 0), (.int 0), (.int 0), (.int 0), (.int 0), (.int 0), (.int 0), (.int 0)] := AT
    have X := ext_wr X W333 gt
    refine g_dup P333 d0_130 rfl ?_
    refine g_bipush (v := (16 : Int32)) P333 d0_131 (by rfl) ?_
    refine g_bipush (v := (122 : Int32)) P333 d0_133 (by rfl) ?_
    refine g_bastoreB (i := 16) (w := 122) P333 d0_135 AT (by decide) (dT rfl) ge (by decide) fun T334 h334 P334 W334 AT => ?_
    have AT : AL Z h334 tx kt .byte [(.int 122), (.int 122), (.int 122), (.int 122), (.int 122), (.int 122), (.int 122), (.int 122), (.int 122), (.int 122), (.int 122), (.int 122), (.int 122), (.int 122), (.int 122), (.int 122), (.int 122), (.int 0), (.int 0), (.int 0), (.int 0), (.int 0), (.int 0), (.int 0), (.int 0), (.int 0), (.int 0), (.int 0), (.int 0), (.int 0), (.int 0), (.int 0)] := AT
    have X := ext_wr X W334 gt
    refine g_dup P334 d0_136 rfl ?_
    refine g_bipush (v := (17 : Int32)) P334 d0_137 (by rfl) ?_
    refine g_bipush (v := (122 : Int32)) P334 d0_139 (by rfl) ?_
    refine g_bastoreB (i := 17) (w := 122) P334 d0_141 AT (by decide) (dT rfl) ge (by decide) fun T335 h335 P335 W335 AT => ?_
    have AT : AL Z h335 tx kt .byte [(.int 122), (.int 122), (.int 122), (.int 122), (.int 122), (.int 122), (.int 122), (.int 122), (.int 122), (.int 122), (.int 122), (.int 122), (.int 122), (.int 122), (.int 122), (.int 122), (.int 122), (.int 122), (.int 0), (.int 0), (.int 0), (.int 0), (.int 0), (.int 0), (.int 0), (.int 0), (.int 0), (.int 0), (.int 0), (.int 0), (.int 0), (.int 0)] := AT
    have X := ext_wr X W335 gt
    refine g_dup P335 d0_142 rfl ?_
    refine g_bipush (v := (18 : Int32)) P335 d0_143 (by rfl) ?_
    refine g_bipush (v := (122 : Int32)) P335 d0_145 (by rfl) ?_
    refine g_bastoreB (i := 18) (w := 122) P335 d0_147 AT (by decide) (dT rfl) ge (by decide) fun T336 h336 P336 W336 AT => ?_
    have AT : AL Z h336 tx kt .byte [(.int 122), (.int 122), (.int 122), (.int 122), (.int 122), (.int 122), (.int 122), (.int 122), (.int 122), (.int 122), (.int 122), (.int 122), (.int 122), (.int 122), (.int 122), (.int 122), (.int 122), (.int 122), (.int 122), (.int 0), (.int 0), (.int 0), (.int 0), (.int 0), (.int 0), (.int 0), (.int 0), (.int 0), (.int 0), (.int 0), (.int 0), (.int 0)] := AT
    have X := ext_wr X W336 gt
    refine g_dup P336 d0_148 rfl ?_
    refine g_bipush (v := (19 : Int32)) P336 d0_149 (by rfl) ?_
    refine g_bipush (v := (122 : Int32)) P336 d0_151 (by rfl) ?_
    refine g_bastoreB (i := 19) (w := 122) P336 d0_153 AT (by decide) (dT rfl) ge (by decide) fun T337 h337 P337 W337 AT => ?_
    have AT : AL Z h337 tx kt .byte [(.int 122), (.int 122), (.int 122), (.int 122), (.int 122), (.int 122), (.int 122), (.int 122), (.int 122), (.int 122), (.int 122), (.int 122), (.int 122), (.int 122), (.int 122), (.int 122), (.int 122), (.int 122), (.int 122), (.int 122), (.int 0), (.int 0), (.int 0), (.int 0), (.int 0), (.int 0), (.int 0), (.int 0), (.int 0), (.int 0), (.int 0), (.int 0)] := AT
    have X := ext_wr X W337 gt
    refine g_dup P337 d0_154 rfl ?_
    refine g_bipush (v := (20 : Int32)) P337 d0_155 (by rfl) ?_
    refine g_bipush (v := (122 : Int32)) P337 d0_157 (by rfl) ?_
    refine g_bastoreB (i := 20) (w := 122) P337 d0_159 AT (by decide) (dT rfl) ge (by decide) fun T338 h338 P338 W338 AT => ?_
    have AT : AL Z h338 tx kt .byte [(.int 122), (.int 122), (.int 122), (.int 122), (.int 122), (.int 122), (.int 122), (.int 122), (.int 122), (.int 122), (.int 122), (.int 122), (.int 122), (.int 122), (.int 122), (.int 122), (.int 122), (.int 122), (.int 122), (.int 122), (.int 122), (.int 0), (.int 0), (.int 0), (.int 0), (.int 0), (.int 0), (.int 0), (.int 0), (.int 0), (.int 0), (.int 0)] := AT
    have X := ext_wr X W338 gt
    refine g_dup P338 d0_160 rfl ?_
    refine g_bipush (v := (21 : Int32)) P338 d0_161 (by rfl) ?_
    refine g_bipush (v := (122 : Int32)) P338 d0_163 (by rfl) ?_
    refine g_bastoreB (i := 21) (w := 122) P338 d0_165 AT (by decide) (dT rfl) ge (by decide) fun T339 h339 P339 W339 AT => ?_
    have AT : AL Z h339 tx kt .byte [(.int 122), (.int 122), (.int 122), (.int 122), (.int 122), (.int 122), (.int 122), (.int 122), (.int 122), (.int 122), (.int 122), (.int 122), (.int 122), (.int 122), (.int 122), (.int 122), (.int 122), (.int 122), (.int 122), (.int 122), (.int 122), (.int 122), (.int 0), (.int 0), (.int 0), (.int 0), (.int 0), (.int 0), (.int 0), (.int 0), (.int 0), (.int 0)] := AT
    have X := ext_wr X W339 gt
    refine g_dup P339 d0_166 rfl ?_
    refine g_bipush (v := (22 : Int32)) P339 d0_167 (by rfl) ?_
    refine g_bipush (v := (122 : Int32)) P339 d0_169 (by rfl) ?_
    refine g_bastoreB (i := 22) (w := 122) P339 d0_171 AT (by decide) (dT rfl) ge (by decide) fun T340 h340 P340 W340 AT => ?_
    have AT : AL Z h340 tx kt .byte [(.int 122), (.int 122), (.int 122), (.int 122), (.int 122), (.int 122), (.int 122), (.int 122), (.int 122), (.int 122), (.int 122), (.int 122), (.int 122), (.int 122), (.int 122), (.int 122), (.int 122), (.int 122), (.int 122), (.int 122), (.int 122), (.int 122), (.int 122), (.int 0), (.int 0), (.int 0), (.int 0), (.int 0), (.int 0), (.int 0), (.int 0), (.int 0)] := AT
    have X := ext_wr X W340 gt
    refine g_dup P340 d0_172 rfl ?_
    refine g_bipush (v := (23 : Int32)) P340 d0_173 (by rfl) ?_
    refine g_bipush (v := (122 : Int32)) P340 d0_175 (by rfl) ?_
    refine g_bastoreB (i := 23) (w := 122) P340 d0_177 AT (by decide) (dT rfl) ge (by decide) fun T341 h341 P341 W341 AT => ?_
    have AT : AL Z h341 tx kt .byte [(.int 122), (.int 122), (.int 122), (.int 122), (.int 122), (.int 122), (.int 122), (.int 122), (.int 122), (.int 122), (.int 122), (.int 122), (.int 122), (.int 122), (.int 122), (.int 122), (.int 122), (.int 122), (.int 122), (.int 122), (.int 122), (.int 122), (.int 122), (.int 122), (.int 0), (.int 0), (.int 0), (.int 0), (.int 0), (.int 0), (.int 0), (.int 0)] := AT
    have X := ext_wr X W341 gt
    refine g_dup P341 d0_178 rfl ?_
    refine g_bipush (v := (24 : Int32)) P341 d0_179 (by rfl) ?_
    refine g_bipush (v := (122 : Int32)) P341 d0_181 (by rfl) ?_
    refine g_bastoreB (i := 24) (w := 122) P341 d0_183 AT (by decide) (dT rfl) ge (by decide) fun T342 h342 P342 W342 AT => ?_
    have AT : AL Z h342 tx kt .byte [(.int 122), (.int 122), (.int 122), (.int 122), (.int 122), (.int 122), (.int 122), (.int 122), (.int 122), (.int 122), (.int 122), (.int 122), (.int 122), (.int 122), (.int 122), (.int 122), (.int 122), (.int 122), (.int 122), (.int 122), (.int 122), (.int 122), (.int 122), (.int 122), (.int 122), (.int 0), (.int 0), (.int 0), (.int 0), (.int 0), (.int 0), (.int 0)] := AT
    have X := ext_wr X W342 gt
    refine g_dup P342 d0_184 rfl ?_
    refine g_bipush (v := (25 : Int32)) P342 d0_185 (by rfl) ?_
    refine g_bipush (v := (122 : Int32)) P342 d0_187 (by rfl) ?_
    refine g_bastoreB (i := 25) (w := 122) P342 d0_189 AT (by decide) (dT rfl) ge (by decide) fun T343 h343 P343 W343 AT => ?_
    have AT : AL Z h343 tx kt .byte [(.int 122), (.int 122), (.int 122), (.int 122), (.int 122), (.int 122), (.int 122), (.int 122), (.int 122), (.int 122), (.int 122), (.int 122), (.int 122), (.int 122), (.int 122), (.int 122), (.int 122), (.int 122), (.int 122), (.int 122), (.int 122), (.int 122), (.int 122), (.int 122), (.int 122), (.int 122), (.int 0), (.int 0), (.int 0), (.int 0), (.int 0), (.int 0)] := AT
    have X := ext_wr X W343 gt
    refine g_dup P343 d0_190 rfl ?_
    refine g_bipush (v := (26 : Int32)) P343 d0_191 (by rfl) ?_
    refine g_bipush (v := (122 : Int32)) P343 d0_193 (by rfl) ?_
    refine g_bastoreB (i := 26) (w := 122) P343 d0_195 AT (by decide) (dT rfl) ge (by decide) fun T344 h344 P344 W344 AT => ?_
    have AT : AL Z h344 tx kt .byte [(.int 122), (.int 122), (.int 122), (.int 122), (.int 122), (.int 122), (.int 122), (.int 122), (.int 122), (.int 122), (.int 122), (.int 122), (.int 122), (.int 122), (.int 122), (.int 122), (.int 122), (.int 122), (.int 122), (.int 122), (.int 122), (.int 122), (.int 122), (.int 122), (.int 122), (.int 122), (.int 122), (.int 0), (.int 0), (.int 0), (.int 0), (.int 0)] := AT
    have X := ext_wr X W344 gt
    refine g_dup P344 d0_196 rfl ?_
    refine g_bipush (v := (27 : Int32)) P344 d0_197 (by rfl) ?_
    refine g_bipush (v := (122 : Int32)) P344 d0_199 (by rfl) ?_
    refine g_bastoreB (i := 27) (w := 122) P344 d0_201 AT (by decide) (dT rfl) ge (by decide) fun T345 h345 P345 W345 AT => ?_
    have AT : AL Z h345 tx kt .byte [(.int 122), (.int 122), (.int 122), (.int 122), (.int 122), (.int 122), (.int 122), (.int 122), (.int 122), (.int 122), (.int 122), (.int 122), (.int 122), (.int 122), (.int 122), (.int 122), (.int 122), (.int 122), (.int 122), (.int 122), (.int 122), (.int 122), (.int 122), (.int 122), (.int 122), (.int 122), (.int 122), (.int 122), (.int 0), (.int 0), (.int 0), (.int 0)] := AT
    have X := ext_wr X W345 gt
    refine g_dup P345 d0_202 rfl ?_
    refine g_bipush (v := (28 : Int32)) P345 d0_203 (by rfl) ?_
    refine g_bipush (v := (122 : Int32)) P345 d0_205 (by rfl) ?_
    refine g_bastoreB (i := 28) (w := 122) P345 d0_207 AT (by decide) (dT rfl) ge (by decide) fun T346 h346 P346 W346 AT => ?_
    have AT : AL Z h346 tx kt .byte [(.int 122), (.int 122), (.int 122), (.int 122), (.int 122), (.int 122), (.int 122), (.int 122), (.int 122), (.int 122), (.int 122), (.int 122), (.int 122), (.int 122), (.int 122), (.int 122), (.int 122), (.int 122), (.int 122), (.int 122), (.int 122), (.int 122), (.int 122), (.int 122), (.int 122), (.int 122), (.int 122), (.int 122), (.int 122), (.int 0), (.int 0), (.int 0)] := AT
    have X := ext_wr X W346 gt
    refine g_dup P346 d0_208 rfl ?_
    refine g_bipush (v := (29 : Int32)) P346 d0_209 (by rfl) ?_
    refine g_bipush (v := (122 : Int32)) P346 d0_211 (by rfl) ?_
    refine g_bastoreB (i := 29) (w := 122) P346 d0_213 AT (by decide) (dT rfl) ge (by decide) fun T347 h347 P347 W347 AT => ?_
    have AT : AL Z h347 tx kt .byte [(.int 122), (.int 122), (.int 122), (.int 122), (.int 122), (.int 122), (.int 122), (.int 122), (.int 122), (.int 122), (.int 122), (.int 122), (.int 122), (.int 122), (.int 122), (.int 122), (.int 122), (.int 122), (.int 122), (.int 122), (.int 122), (.int 122), (.int 122), (.int 122), (.int 122), (.int 122), (.int 122), (.int 122), (.int 122), (.int 122), (.int 0), (.int 0)] := AT
    have X := ext_wr X W347 gt
    refine g_dup P347 d0_214 rfl ?_
    refine g_bipush (v := (30 : Int32)) P347 d0_215 (by rfl) ?_
    refine g_bipush (v := (122 : Int32)) P347 d0_217 (by rfl) ?_
    refine g_bastoreB (i := 30) (w := 122) P347 d0_219 AT (by decide) (dT rfl) ge (by decide) fun T348 h348 P348 W348 AT => ?_
    have AT : AL Z h348 tx kt .byte [(.int 122), (.int 122), (.int 122), (.int 122), (.int 122), (.int 122), (.int 122), (.int 122), (.int 122), (.int 122), (.int 122), (.int 122), (.int 122), (.int 122), (.int 122), (.int 122), (.int 122), (.int 122), (.int 122), (.int 122), (.int 122), (.int 122), (.int 122), (.int 122), (.int 122), (.int 122), (.int 122), (.int 122), (.int 122), (.int 122), (.int 122), (.int 0)] := AT
    have X := ext_wr X W348 gt
    refine g_dup P348 d0_220 rfl ?_
    refine g_bipush (v := (31 : Int32)) P348 d0_221 (by rfl) ?_
    refine g_bipush (v := (122 : Int32)) P348 d0_223 (by rfl) ?_
    refine g_bastoreB (i := 31) (w := 122) P348 d0_225 AT (by decide) (dT rfl) ge (by decide) fun T349 h349 P349 W349 AT => ?_
    have AT : AL Z h349 tx kt .byte [(.int 122), (.int 122), (.int 122), (.int 122), (.int 122), (.int 122), (.int 122), (.int 122), (.int 122), (.int 122), (.int 122), (.int 122), (.int 122), (.int 122), (.int 122), (.int 122), (.int 122), (.int 122), (.int 122), (.int 122), (.int 122), (.int 122), (.int 122), (.int 122), (.int 122), (.int 122), (.int 122), (.int 122), (.int 122), (.int 122), (.int 122), (.int 122)] := AT
    have X := ext_wr X W349 gt
    have AT : AL Z h349 tx kt .byte ((List.replicate 32 (122 : Int32)).map Value.int) := AT
    refine g_astore P349 d0_226 rfl #[.val (.int p1), .val (.int p2), .val (.int p3), .val (.int p4), .val (.int kv), .val (.int tv), .val (.int ae), .val (.ref tx), .unset, .unset, .unset, .unset] rfl ?_
    refine g_iconst (v := (3 : Int32)) P349 d0_228 (by rfl) ?_
    have ltx := AT.lt
    refine g_newarray P349 d0_229 (hw _ (List.mem_of_getElem? (i := 1) rfl)) (by decide) 3 (by decide) (by decide) (by decide) (by decide) "[I" (by decide) fun T350 h350 xp kx P350 e350 E350 AX _ => ?_
    have AX : AL Z h350 xp kx .int (([0, 0, 0] : List Int32).map Value.int) := AX
    have AT := AT.ext E350
    have X := ext_trans X E350
    have xt : xp ≠ tx := nN (by omega)
    have tx_ : tx ≠ xp := Ne.symm xt
    have gxx : h0.size ≤ xp := by omega
    have gx : n0 ≤ xp := by omega
    obtain ⟨t, ht0⟩ : ∃ t, t = List.replicate 32 (122 : Int32) := ⟨_, rfl⟩
    rw [← ht0] at AT
    have lt : t.length = 32 := by rw [ht0, List.length_replicate]
    have hB : AllB t := by rw [ht0]; exact allB_rep
    have hZ : Zs t 0 32 := by rw [ht0]; exact zs_rep
    clear ht0
    refine g_astore P350 d0_231 rfl #[.val (.int p1), .val (.int p2), .val (.int p3), .val (.int p4), .val (.int kv), .val (.int tv), .val (.int ae), .val (.ref tx), .val (.ref xp), .unset, .unset, .unset] rfl ?_
    refine g_aload P350 d0_233 rfl rfl ?_
    refine g_iconst (v := (0 : Int32)) P350 d0_235 (by rfl) ?_
    refine g_aload P350 d0_236 rfl rfl ?_
    refine g_iconst (v := (0 : Int32)) P350 d0_238 (by rfl) ?_
    refine g_iloadN P350 d0_239 rfl ?_
    refine g_iloadN P350 d0_240 rfl ?_
    refine g_iload P350 d0_241 rfl ?_
    refine g_iload P350 d0_243 rfl ?_
    rcases hk with rfl | rfl | rfl <;> rcases ht with ⟨rfl, rfl⟩ | ⟨rfl, rfl⟩ | ⟨rfl, rfl⟩ | ⟨rfl, rfl⟩
    · refine g_static P350 [(.ref tx), (.int (0 : Int32)), (.ref xp), (.int (0 : Int32)), (.int p1), (.int p2), (.int (1 : Int32)), (.int (0 : Int32))] (rest := []) (W := 0) d0_245 (hw _ (List.mem_of_getElem? (i := 2) rfl)) (hw _ (List.mem_of_getElem? (i := 3) rfl)) (hw _ (List.mem_of_getElem? (i := 4) rfl)) (hw _ (List.mem_of_getElem? (i := 5) rfl)) (by decide) (rm_field_mid0 l Z a0 hw _ n0 tx xp kt kx t _ (0) 0 (0 : Int32) p1 p2 (1 : Int32) AT lt hB hZ (by omega) AX (by decide) (dT rfl) ge gx xt tx_) pd_8 rfl rfl rfl rfl (by decide) (by decide) (by decide) (by decide) fun v351 T351 h351 P351 q351 => ?_
      obtain ⟨t0, s0, e0, f0, rfl, AT, lt, hB, AX, hF0, hf0, hlow, hZ, K⟩ := q351
      have X := ext_below X (Below.refl.keep K (in2 gt gxx)) (Nat.le_refl _)
      have o0 := hF0.le
      refine g_istore P351 d0_248 #[.val (.int p1), .val (.int p2), .val (.int p3), .val (.int p4), .val (.int (1 : Int32)), .val (.int (0 : Int32)), .val (.int (0 : Int32)), .val (.ref tx), .val (.ref xp), .val (.int (iN f0)), .unset, .unset] rfl ?_
      refine g_iload P351 d0_250 rfl ?_
      refine g_iconst (v := (1 : Int32)) P351 d0_252 (by rfl) ?_
      refine g_icmpYes P351 d0_253 (by decide) 283 (by decide) (by decide) ?_
      refine g_iload P351 d0_283 rfl ?_
      refine g_iconst (v := (2 : Int32)) P351 d0_285 (by rfl) ?_
      refine g_icmpYes P351 d0_286 (by decide) 316 (by decide) (by decide) ?_
      refine g_iload P351 d0_316 rfl ?_
      refine g_ifNo P351 d0_318 (by decide) ?_
      refine g_aload P351 d0_321 rfl rfl ?_
      refine g_iload P351 d0_323 rfl ?_
      refine g_bipush (v := (10 : Int32)) P351 d0_325 (by rfl) ?_
      refine g_bastoreB (i := f0) (w := 10) P351 d0_327 AT (ix_iN (by omega)) (by simp only [List.length_map, List.length_set]; omega) ge (by decide) fun T352 h352 P352 W352 AT => ?_
      rw [map_set'] at AT
      have X := ext_wr X W352 gt
      have AX := AX.other W352 xt
      obtain ⟨te, ht_te⟩ : ∃ q, q = t0.set f0 10 := ⟨_, rfl⟩
      rw [← ht_te] at AT
      have hF0 := hF0.congr (fun i hi => (by rw [ht_te, List.getElem?_set_ne (by omega)] : te[i]? = t0[i]?))
      have g_te : te[f0]? = some 10 := by rw [ht_te, List.getElem?_set_self (by omega)]
      have lt : te.length = 32 := by rw [ht_te, List.length_set]; exact lt
      have hB : AllB te := by rw [ht_te]; exact hB.set (by decide)
      refine g_goto P352 d0_328 353 (by decide) (by decide) ?_
      have hE : EndAt te f0 := Or.inr (Or.inl g_te)
      have hR : Rec te 0 [(s0, e0, f0)] := ⟨hF0, (by omega : @LE.le Nat _ f0 32), hE⟩
      refine g_new P352 d0_353 (hw _ (List.mem_of_getElem? (i := 6) rfl)) (hw _ (List.mem_of_getElem? (i := 7) rfl)) (hw _ (List.mem_of_getElem? (i := 8) rfl)) (by decide) (by decide) fun T353 h353 a P353 e353 E353 A353 F353 => ?_
      have lt1 := AT.lt
      have lx1 := AX.lt
      have X := ext_trans X E353
      have AT := AT.ext E353
      have AX := AX.ext E353
      have txl : tx < a := (by omega : @LT.lt Nat _ tx a)
      have txa : tx ≠ a := nN (by omega)
      have xpl : @LT.lt Nat _ xp a := by omega
      have ga : n0 ≤ a := by omega
      have bma : bm ≠ a := nN (by have := AM.lt; omega)
      have gza : h0.size ≤ a := by omega
      have F_text := F353 (Or.inr (hw _ (List.mem_of_getElem? (i := 23) rfl)) : Laid Z a0 "com/example/lintel/lintel/io/CsvReader" "com/example/lintel/lintel/io/CsvReader" "text" "[B") (ty := (.array .byte)) (by decide)
      have F_length := F353 (Or.inr (hw _ (List.mem_of_getElem? (i := 25) rfl)) : Laid Z a0 "com/example/lintel/lintel/io/CsvReader" "com/example/lintel/lintel/io/CsvReader" "length" "I") (ty := .int) (by decide)
      have F_starts := F353 (Or.inl (hw _ (List.mem_of_getElem? (i := 16) rfl)) : Laid Z a0 "com/example/lintel/lintel/io/CsvReader" "com/example/lintel/lintel/io/CsvReader" "starts" "[I") (ty := (.array .int)) (by decide)
      have F_ends := F353 (Or.inl (hw _ (List.mem_of_getElem? (i := 18) rfl)) : Laid Z a0 "com/example/lintel/lintel/io/CsvReader" "com/example/lintel/lintel/io/CsvReader" "ends" "[I") (ty := (.array .int)) (by decide)
      have F_doubledQuotes := F353 (Or.inl (hw _ (List.mem_of_getElem? (i := 21) rfl)) : Laid Z a0 "com/example/lintel/lintel/io/CsvReader" "com/example/lintel/lintel/io/CsvReader" "doubledQuotes" "[Z") (ty := (.array .boolean)) (by decide)
      have F_at := F353 (Or.inl (hw _ (List.mem_of_getElem? (i := 44) rfl)) : Laid Z a0 "com/example/lintel/lintel/io/CsvReader" "com/example/lintel/lintel/io/CsvReader" "at" "I") (ty := .int) (by decide)
      have F_row := F353 (Or.inl (hw _ (List.mem_of_getElem? (i := 51) rfl)) : Laid Z a0 "com/example/lintel/lintel/io/CsvReader" "com/example/lintel/lintel/io/CsvReader" "row" "I") (ty := .int) (by decide)
      have F_bytesOr := F353 (Or.inl (hw _ (List.mem_of_getElem? (i := 63) rfl)) : Laid Z a0 "com/example/lintel/lintel/io/CsvReader" "com/example/lintel/lintel/io/CsvReader" "bytesOr" "I") (ty := .int) (by decide)
      have F_size := F353 (Or.inl (hw _ (List.mem_of_getElem? (i := 53) rfl)) : Laid Z a0 "com/example/lintel/lintel/io/CsvReader" "com/example/lintel/lintel/io/CsvReader" "size" "I") (ty := .int) (by decide)
      refine g_dup P353 d0_356 rfl ?_
      refine g_aload P353 d0_357 rfl rfl ?_
      refine g_special P353 a [(.ref tx)] (rest := [(.ref a)]) (W := 1) d0_359 rfl (hw _ (List.mem_of_getElem? (i := 9) rfl)) (hw _ (List.mem_of_getElem? (i := 10) rfl)) (hw _ (List.mem_of_getElem? (i := 8) rfl)) (hw _ (List.mem_of_getElem? (i := 11) rfl)) (by decide) (rm_init l Z a0 hw _ n0 a tx bm kt kb te vb ga A353 F_text F_length F_starts F_ends F_doubledQuotes F_at F_row F_bytesOr F_size AT lt hB txl txa (S_BOM.ext X) (AM.ext X) lb gm bma) pd_9 rfl rfl rfl rfl (by decide) (by decide) (by decide) (by decide) fun v354 T354 h354 P354 q354 => ?_
      obtain ⟨rfl, sa, ea, da, ks, ke, kd, F, A, D1, B⟩ := q354
      have AX := AX.blw B xpl
      refine g_astore P354 d0_362 rfl #[.val (.int p1), .val (.int p2), .val (.int p3), .val (.int p4), .val (.int (1 : Int32)), .val (.int (0 : Int32)), .val (.int (0 : Int32)), .val (.ref tx), .val (.ref xp), .val (.int (iN f0)), .val (.ref a), .unset] rfl ?_
      refine g_aload P354 d0_364 rfl rfl ?_
      refine g_virtual P354 a [] (rest := []) (W := 0) d0_366 (hw _ (List.mem_of_getElem? (i := 45) rfl)) (hw _ (List.mem_of_getElem? (i := 46) rfl)) (hw _ (List.mem_of_getElem? (i := 48) rfl)) (hw _ (List.mem_of_getElem? (i := 47) rfl)) (hw _ (List.mem_of_getElem? (i := 8) rfl)) (hw _ (List.mem_of_getElem? (i := 49) rfl)) (by decide) F.exa (rm_next l Z a0 hw _ n0 a a tx sa ea da kt ks ke kd te _ _ _ _ _ _ [(s0, e0, f0)] ga F A hB D1 (by decide) hR (by simp)) pd_10 rfl rfl rfl rfl (by decide) (by decide) (by decide) (by decide) fun v355 T355 h355 P355 q355 => ?_
      obtain ⟨rfl, av, rv, bo, st, en, dq, F, A, hG, B⟩ := q355
      have AX := AX.blw B xpl
      refine g_ifYes P355 d0_369 (by decide) 374 (by decide) (by decide) ?_
      refine g_aload P355 d0_374 rfl rfl ?_
      refine g_virtual P355 a [] (rest := []) (W := 0) d0_376 (hw _ (List.mem_of_getElem? (i := 68) rfl)) (hw _ (List.mem_of_getElem? (i := 69) rfl)) (hw _ (List.mem_of_getElem? (i := 71) rfl)) (hw _ (List.mem_of_getElem? (i := 70) rfl)) (hw _ (List.mem_of_getElem? (i := 8) rfl)) (hw _ (List.mem_of_getElem? (i := 72) rfl)) (by decide) F.exa (rm_size l Z a0 hw _ n0 a a tx sa ea da kt ks ke kd te [] [] [] _ _ _ _ F) pd_2 rfl rfl rfl rfl (by decide) (by decide) (by decide) (by decide) fun v356 T356 h356 P356 q356 => ?_
      obtain ⟨rfl, rfl⟩ := q356
      refine g_iload P356 d0_379 rfl ?_
      refine g_icmpYes P356 d0_381 (teq rfl).1 386 (by decide) (by decide) ?_
      refine g_aload P356 d0_386 rfl rfl ?_
      refine g_iconst (v := (0 : Int32)) P356 d0_388 (by rfl) ?_
      refine g_virtual P356 a [(.int (0 : Int32))] (rest := []) (W := 0) d0_389 (hw _ (List.mem_of_getElem? (i := 73) rfl)) (hw _ (List.mem_of_getElem? (i := 74) rfl)) (hw _ (List.mem_of_getElem? (i := 76) rfl)) (hw _ (List.mem_of_getElem? (i := 75) rfl)) (hw _ (List.mem_of_getElem? (i := 8) rfl)) (hw _ (List.mem_of_getElem? (i := 77) rfl)) (by decide) F.exa (rm_length l Z a0 hw _ n0 a a tx sa ea da kt ks ke kd te _ _ _ _ _ _ _ (0 : Int32) (iN s0) (iN e0) 0 F A (by decide) (hG 0 _ rfl).1 (hG 0 _ rfl).2) pd_0 rfl rfl rfl rfl (by decide) (by decide) (by decide) (by decide) fun v357 T357 h357 P357 q357 => ?_
      obtain ⟨rfl, rfl⟩ := q357
      refine g_aload P357 d0_392 rfl rfl ?_
      refine g_iconst (v := (0 : Int32)) P357 d0_394 (by rfl) ?_
      refine g_iaload (i := 0) (v := (.int (iN e0 - iN s0))) P357 d0_395 AX (by decide) rfl ?_
      refine g_icmpNo P357 d0_396 (teq rfl).2 ?_
      refine g_iconst (v := (1 : Int32)) P357 d0_399 (by rfl) ?_
      refine g_goto P357 d0_400 404 (by decide) (by decide) ?_
      refine g_istore P357 d0_404 #[.val (.int p1), .val (.int p2), .val (.int p3), .val (.int p4), .val (.int (1 : Int32)), .val (.int (0 : Int32)), .val (.int (0 : Int32)), .val (.ref tx), .val (.ref xp), .val (.int (iN f0)), .val (.ref a), .val (.int (1 : Int32))] rfl ?_
      refine g_iload P357 d0_406 rfl ?_
      refine g_iconst (v := (1 : Int32)) P357 d0_408 (by rfl) ?_
      refine g_icmpYes P357 d0_409 (by decide) 437 (by decide) (by decide) ?_
      refine g_iload P357 d0_437 rfl ?_
      refine g_iconst (v := (2 : Int32)) P357 d0_439 (by rfl) ?_
      refine g_icmpYes P357 d0_440 (by decide) 468 (by decide) (by decide) ?_
      refine g_iload P357 d0_468 rfl ?_
      exact g_retZ P357 d0_470 (by decide) (by decide) (by decide) rfl
    · refine g_static P350 [(.ref tx), (.int (0 : Int32)), (.ref xp), (.int (0 : Int32)), (.int p1), (.int p2), (.int (1 : Int32)), (.int (0 : Int32))] (rest := []) (W := 0) d0_245 (hw _ (List.mem_of_getElem? (i := 2) rfl)) (hw _ (List.mem_of_getElem? (i := 3) rfl)) (hw _ (List.mem_of_getElem? (i := 4) rfl)) (hw _ (List.mem_of_getElem? (i := 5) rfl)) (by decide) (rm_field_mid0 l Z a0 hw _ n0 tx xp kt kx t _ (0) 0 (0 : Int32) p1 p2 (1 : Int32) AT lt hB hZ (by omega) AX (by decide) (dT rfl) ge gx xt tx_) pd_8 rfl rfl rfl rfl (by decide) (by decide) (by decide) (by decide) fun v358 T358 h358 P358 q358 => ?_
      obtain ⟨t0, s0, e0, f0, rfl, AT, lt, hB, AX, hF0, hf0, hlow, hZ, K⟩ := q358
      have X := ext_below X (Below.refl.keep K (in2 gt gxx)) (Nat.le_refl _)
      have o0 := hF0.le
      refine g_istore P358 d0_248 #[.val (.int p1), .val (.int p2), .val (.int p3), .val (.int p4), .val (.int (1 : Int32)), .val (.int (1 : Int32)), .val (.int (0 : Int32)), .val (.ref tx), .val (.ref xp), .val (.int (iN f0)), .unset, .unset] rfl ?_
      refine g_iload P358 d0_250 rfl ?_
      refine g_iconst (v := (1 : Int32)) P358 d0_252 (by rfl) ?_
      refine g_icmpYes P358 d0_253 (by decide) 283 (by decide) (by decide) ?_
      refine g_iload P358 d0_283 rfl ?_
      refine g_iconst (v := (2 : Int32)) P358 d0_285 (by rfl) ?_
      refine g_icmpYes P358 d0_286 (by decide) 316 (by decide) (by decide) ?_
      refine g_iload P358 d0_316 rfl ?_
      refine g_ifYes P358 d0_318 (by decide) 331 (by decide) (by decide) ?_
      refine g_iload P358 d0_331 rfl ?_
      refine g_iconst (v := (1 : Int32)) P358 d0_333 (by rfl) ?_
      refine g_icmpNo P358 d0_334 (by decide) ?_
      refine g_aload P358 d0_337 rfl rfl ?_
      refine g_iload P358 d0_339 rfl ?_
      refine g_bipush (v := (13 : Int32)) P358 d0_341 (by rfl) ?_
      refine g_bastoreB (i := f0) (w := 13) P358 d0_343 AT (ix_iN (by omega)) (by simp only [List.length_map, List.length_set]; omega) ge (by decide) fun T359 h359 P359 W359 AT => ?_
      rw [map_set'] at AT
      have X := ext_wr X W359 gt
      have AX := AX.other W359 xt
      obtain ⟨td, ht_td⟩ : ∃ q, q = t0.set f0 13 := ⟨_, rfl⟩
      rw [← ht_td] at AT
      have hF0 := hF0.congr (fun i hi => (by rw [ht_td, List.getElem?_set_ne (by omega)] : td[i]? = t0[i]?))
      have g_td : td[f0]? = some 13 := by rw [ht_td, List.getElem?_set_self (by omega)]
      have lt : td.length = 32 := by rw [ht_td, List.length_set]; exact lt
      have hB : AllB td := by rw [ht_td]; exact hB.set (by decide)
      refine g_aload P359 d0_344 rfl rfl ?_
      refine g_iload P359 d0_346 rfl ?_
      refine g_iconst (v := (1 : Int32)) P359 d0_348 (by rfl) ?_
      refine g_iadd (v := (iN (f0 + 1))) P359 d0_349 (iN_add _ 1) ?_
      refine g_bipush (v := (10 : Int32)) P359 d0_350 (by rfl) ?_
      refine g_bastoreB (i := (f0 + 1)) (w := 10) P359 d0_352 AT (ix_iN (by omega)) (by simp only [List.length_map, List.length_set]; omega) ge (by decide) fun T360 h360 P360 W360 AT => ?_
      rw [map_set'] at AT
      have X := ext_wr X W360 gt
      have AX := AX.other W360 xt
      obtain ⟨te, ht_te⟩ : ∃ q, q = td.set (f0 + 1) 10 := ⟨_, rfl⟩
      rw [← ht_te] at AT
      have hF0 := hF0.congr (fun i hi => (by rw [ht_te, List.getElem?_set_ne (by omega)] : te[i]? = td[i]?))
      have g_te : te[(f0 + 1)]? = some 10 := by rw [ht_te, List.getElem?_set_self (by omega)]
      have lt : te.length = 32 := by rw [ht_te, List.length_set]; exact lt
      have hB : AllB te := by rw [ht_te]; exact hB.set (by decide)
      have g_td : te[f0]? = some 13 := by rw [ht_te, List.getElem?_set_ne (by omega)]; exact g_td
      have hE : EndAt te f0 := Or.inr (Or.inr ⟨g_td, g_te⟩)
      have hR : Rec te 0 [(s0, e0, f0)] := ⟨hF0, (by omega : @LE.le Nat _ f0 32), hE⟩
      refine g_new P360 d0_353 (hw _ (List.mem_of_getElem? (i := 6) rfl)) (hw _ (List.mem_of_getElem? (i := 7) rfl)) (hw _ (List.mem_of_getElem? (i := 8) rfl)) (by decide) (by decide) fun T361 h361 a P361 e361 E361 A361 F361 => ?_
      have lt1 := AT.lt
      have lx1 := AX.lt
      have X := ext_trans X E361
      have AT := AT.ext E361
      have AX := AX.ext E361
      have txl : tx < a := (by omega : @LT.lt Nat _ tx a)
      have txa : tx ≠ a := nN (by omega)
      have xpl : @LT.lt Nat _ xp a := by omega
      have ga : n0 ≤ a := by omega
      have bma : bm ≠ a := nN (by have := AM.lt; omega)
      have gza : h0.size ≤ a := by omega
      have F_text := F361 (Or.inr (hw _ (List.mem_of_getElem? (i := 23) rfl)) : Laid Z a0 "com/example/lintel/lintel/io/CsvReader" "com/example/lintel/lintel/io/CsvReader" "text" "[B") (ty := (.array .byte)) (by decide)
      have F_length := F361 (Or.inr (hw _ (List.mem_of_getElem? (i := 25) rfl)) : Laid Z a0 "com/example/lintel/lintel/io/CsvReader" "com/example/lintel/lintel/io/CsvReader" "length" "I") (ty := .int) (by decide)
      have F_starts := F361 (Or.inl (hw _ (List.mem_of_getElem? (i := 16) rfl)) : Laid Z a0 "com/example/lintel/lintel/io/CsvReader" "com/example/lintel/lintel/io/CsvReader" "starts" "[I") (ty := (.array .int)) (by decide)
      have F_ends := F361 (Or.inl (hw _ (List.mem_of_getElem? (i := 18) rfl)) : Laid Z a0 "com/example/lintel/lintel/io/CsvReader" "com/example/lintel/lintel/io/CsvReader" "ends" "[I") (ty := (.array .int)) (by decide)
      have F_doubledQuotes := F361 (Or.inl (hw _ (List.mem_of_getElem? (i := 21) rfl)) : Laid Z a0 "com/example/lintel/lintel/io/CsvReader" "com/example/lintel/lintel/io/CsvReader" "doubledQuotes" "[Z") (ty := (.array .boolean)) (by decide)
      have F_at := F361 (Or.inl (hw _ (List.mem_of_getElem? (i := 44) rfl)) : Laid Z a0 "com/example/lintel/lintel/io/CsvReader" "com/example/lintel/lintel/io/CsvReader" "at" "I") (ty := .int) (by decide)
      have F_row := F361 (Or.inl (hw _ (List.mem_of_getElem? (i := 51) rfl)) : Laid Z a0 "com/example/lintel/lintel/io/CsvReader" "com/example/lintel/lintel/io/CsvReader" "row" "I") (ty := .int) (by decide)
      have F_bytesOr := F361 (Or.inl (hw _ (List.mem_of_getElem? (i := 63) rfl)) : Laid Z a0 "com/example/lintel/lintel/io/CsvReader" "com/example/lintel/lintel/io/CsvReader" "bytesOr" "I") (ty := .int) (by decide)
      have F_size := F361 (Or.inl (hw _ (List.mem_of_getElem? (i := 53) rfl)) : Laid Z a0 "com/example/lintel/lintel/io/CsvReader" "com/example/lintel/lintel/io/CsvReader" "size" "I") (ty := .int) (by decide)
      refine g_dup P361 d0_356 rfl ?_
      refine g_aload P361 d0_357 rfl rfl ?_
      refine g_special P361 a [(.ref tx)] (rest := [(.ref a)]) (W := 1) d0_359 rfl (hw _ (List.mem_of_getElem? (i := 9) rfl)) (hw _ (List.mem_of_getElem? (i := 10) rfl)) (hw _ (List.mem_of_getElem? (i := 8) rfl)) (hw _ (List.mem_of_getElem? (i := 11) rfl)) (by decide) (rm_init l Z a0 hw _ n0 a tx bm kt kb te vb ga A361 F_text F_length F_starts F_ends F_doubledQuotes F_at F_row F_bytesOr F_size AT lt hB txl txa (S_BOM.ext X) (AM.ext X) lb gm bma) pd_9 rfl rfl rfl rfl (by decide) (by decide) (by decide) (by decide) fun v362 T362 h362 P362 q362 => ?_
      obtain ⟨rfl, sa, ea, da, ks, ke, kd, F, A, D1, B⟩ := q362
      have AX := AX.blw B xpl
      refine g_astore P362 d0_362 rfl #[.val (.int p1), .val (.int p2), .val (.int p3), .val (.int p4), .val (.int (1 : Int32)), .val (.int (1 : Int32)), .val (.int (0 : Int32)), .val (.ref tx), .val (.ref xp), .val (.int (iN f0)), .val (.ref a), .unset] rfl ?_
      refine g_aload P362 d0_364 rfl rfl ?_
      refine g_virtual P362 a [] (rest := []) (W := 0) d0_366 (hw _ (List.mem_of_getElem? (i := 45) rfl)) (hw _ (List.mem_of_getElem? (i := 46) rfl)) (hw _ (List.mem_of_getElem? (i := 48) rfl)) (hw _ (List.mem_of_getElem? (i := 47) rfl)) (hw _ (List.mem_of_getElem? (i := 8) rfl)) (hw _ (List.mem_of_getElem? (i := 49) rfl)) (by decide) F.exa (rm_next l Z a0 hw _ n0 a a tx sa ea da kt ks ke kd te _ _ _ _ _ _ [(s0, e0, f0)] ga F A hB D1 (by decide) hR (by simp)) pd_10 rfl rfl rfl rfl (by decide) (by decide) (by decide) (by decide) fun v363 T363 h363 P363 q363 => ?_
      obtain ⟨rfl, av, rv, bo, st, en, dq, F, A, hG, B⟩ := q363
      have AX := AX.blw B xpl
      refine g_ifYes P363 d0_369 (by decide) 374 (by decide) (by decide) ?_
      refine g_aload P363 d0_374 rfl rfl ?_
      refine g_virtual P363 a [] (rest := []) (W := 0) d0_376 (hw _ (List.mem_of_getElem? (i := 68) rfl)) (hw _ (List.mem_of_getElem? (i := 69) rfl)) (hw _ (List.mem_of_getElem? (i := 71) rfl)) (hw _ (List.mem_of_getElem? (i := 70) rfl)) (hw _ (List.mem_of_getElem? (i := 8) rfl)) (hw _ (List.mem_of_getElem? (i := 72) rfl)) (by decide) F.exa (rm_size l Z a0 hw _ n0 a a tx sa ea da kt ks ke kd te [] [] [] _ _ _ _ F) pd_2 rfl rfl rfl rfl (by decide) (by decide) (by decide) (by decide) fun v364 T364 h364 P364 q364 => ?_
      obtain ⟨rfl, rfl⟩ := q364
      refine g_iload P364 d0_379 rfl ?_
      refine g_icmpYes P364 d0_381 (teq rfl).1 386 (by decide) (by decide) ?_
      refine g_aload P364 d0_386 rfl rfl ?_
      refine g_iconst (v := (0 : Int32)) P364 d0_388 (by rfl) ?_
      refine g_virtual P364 a [(.int (0 : Int32))] (rest := []) (W := 0) d0_389 (hw _ (List.mem_of_getElem? (i := 73) rfl)) (hw _ (List.mem_of_getElem? (i := 74) rfl)) (hw _ (List.mem_of_getElem? (i := 76) rfl)) (hw _ (List.mem_of_getElem? (i := 75) rfl)) (hw _ (List.mem_of_getElem? (i := 8) rfl)) (hw _ (List.mem_of_getElem? (i := 77) rfl)) (by decide) F.exa (rm_length l Z a0 hw _ n0 a a tx sa ea da kt ks ke kd te _ _ _ _ _ _ _ (0 : Int32) (iN s0) (iN e0) 0 F A (by decide) (hG 0 _ rfl).1 (hG 0 _ rfl).2) pd_0 rfl rfl rfl rfl (by decide) (by decide) (by decide) (by decide) fun v365 T365 h365 P365 q365 => ?_
      obtain ⟨rfl, rfl⟩ := q365
      refine g_aload P365 d0_392 rfl rfl ?_
      refine g_iconst (v := (0 : Int32)) P365 d0_394 (by rfl) ?_
      refine g_iaload (i := 0) (v := (.int (iN e0 - iN s0))) P365 d0_395 AX (by decide) rfl ?_
      refine g_icmpNo P365 d0_396 (teq rfl).2 ?_
      refine g_iconst (v := (1 : Int32)) P365 d0_399 (by rfl) ?_
      refine g_goto P365 d0_400 404 (by decide) (by decide) ?_
      refine g_istore P365 d0_404 #[.val (.int p1), .val (.int p2), .val (.int p3), .val (.int p4), .val (.int (1 : Int32)), .val (.int (1 : Int32)), .val (.int (0 : Int32)), .val (.ref tx), .val (.ref xp), .val (.int (iN f0)), .val (.ref a), .val (.int (1 : Int32))] rfl ?_
      refine g_iload P365 d0_406 rfl ?_
      refine g_iconst (v := (1 : Int32)) P365 d0_408 (by rfl) ?_
      refine g_icmpYes P365 d0_409 (by decide) 437 (by decide) (by decide) ?_
      refine g_iload P365 d0_437 rfl ?_
      refine g_iconst (v := (2 : Int32)) P365 d0_439 (by rfl) ?_
      refine g_icmpYes P365 d0_440 (by decide) 468 (by decide) (by decide) ?_
      refine g_iload P365 d0_468 rfl ?_
      exact g_retZ P365 d0_470 (by decide) (by decide) (by decide) rfl
    · refine g_static P350 [(.ref tx), (.int (0 : Int32)), (.ref xp), (.int (0 : Int32)), (.int p1), (.int p2), (.int (1 : Int32)), (.int (1 : Int32))] (rest := []) (W := 0) d0_245 (hw _ (List.mem_of_getElem? (i := 2) rfl)) (hw _ (List.mem_of_getElem? (i := 3) rfl)) (hw _ (List.mem_of_getElem? (i := 4) rfl)) (hw _ (List.mem_of_getElem? (i := 5) rfl)) (by decide) (rm_field_end l Z a0 hw _ n0 tx xp kt kx t _ (0) 0 (0 : Int32) p1 p2 (1 : Int32) AT lt hB hZ (by omega) AX (by decide) (dT rfl) ge gx xt tx_ (by decide)) pd_8 rfl rfl rfl rfl (by decide) (by decide) (by decide) (by decide) fun v366 T366 h366 P366 q366 => ?_
      obtain ⟨t0, s0, e0, rfl, AT, lt, hB, AX, hF0, hlow, K⟩ := q366
      have X := ext_below X (Below.refl.keep K (in2 gt gxx)) (Nat.le_refl _)
      have o0 := hF0.le
      refine g_istore P366 d0_248 #[.val (.int p1), .val (.int p2), .val (.int p3), .val (.int p4), .val (.int (1 : Int32)), .val (.int (2 : Int32)), .val (.int (1 : Int32)), .val (.ref tx), .val (.ref xp), .val (.int (iN 32)), .unset, .unset] rfl ?_
      refine g_iload P366 d0_250 rfl ?_
      refine g_iconst (v := (1 : Int32)) P366 d0_252 (by rfl) ?_
      refine g_icmpYes P366 d0_253 (by decide) 283 (by decide) (by decide) ?_
      refine g_iload P366 d0_283 rfl ?_
      refine g_iconst (v := (2 : Int32)) P366 d0_285 (by rfl) ?_
      refine g_icmpYes P366 d0_286 (by decide) 316 (by decide) (by decide) ?_
      refine g_iload P366 d0_316 rfl ?_
      refine g_ifYes P366 d0_318 (by decide) 331 (by decide) (by decide) ?_
      refine g_iload P366 d0_331 rfl ?_
      refine g_iconst (v := (1 : Int32)) P366 d0_333 (by rfl) ?_
      refine g_icmpYes P366 d0_334 (by decide) 353 (by decide) (by decide) ?_
      have hE : EndAt t0 32 := Or.inl rfl
      have hR : Rec t0 0 [(s0, e0, 32)] := ⟨hF0, (by omega : @LE.le Nat _ 32 32), hE⟩
      refine g_new P366 d0_353 (hw _ (List.mem_of_getElem? (i := 6) rfl)) (hw _ (List.mem_of_getElem? (i := 7) rfl)) (hw _ (List.mem_of_getElem? (i := 8) rfl)) (by decide) (by decide) fun T367 h367 a P367 e367 E367 A367 F367 => ?_
      have lt1 := AT.lt
      have lx1 := AX.lt
      have X := ext_trans X E367
      have AT := AT.ext E367
      have AX := AX.ext E367
      have txl : tx < a := (by omega : @LT.lt Nat _ tx a)
      have txa : tx ≠ a := nN (by omega)
      have xpl : @LT.lt Nat _ xp a := by omega
      have ga : n0 ≤ a := by omega
      have bma : bm ≠ a := nN (by have := AM.lt; omega)
      have gza : h0.size ≤ a := by omega
      have F_text := F367 (Or.inr (hw _ (List.mem_of_getElem? (i := 23) rfl)) : Laid Z a0 "com/example/lintel/lintel/io/CsvReader" "com/example/lintel/lintel/io/CsvReader" "text" "[B") (ty := (.array .byte)) (by decide)
      have F_length := F367 (Or.inr (hw _ (List.mem_of_getElem? (i := 25) rfl)) : Laid Z a0 "com/example/lintel/lintel/io/CsvReader" "com/example/lintel/lintel/io/CsvReader" "length" "I") (ty := .int) (by decide)
      have F_starts := F367 (Or.inl (hw _ (List.mem_of_getElem? (i := 16) rfl)) : Laid Z a0 "com/example/lintel/lintel/io/CsvReader" "com/example/lintel/lintel/io/CsvReader" "starts" "[I") (ty := (.array .int)) (by decide)
      have F_ends := F367 (Or.inl (hw _ (List.mem_of_getElem? (i := 18) rfl)) : Laid Z a0 "com/example/lintel/lintel/io/CsvReader" "com/example/lintel/lintel/io/CsvReader" "ends" "[I") (ty := (.array .int)) (by decide)
      have F_doubledQuotes := F367 (Or.inl (hw _ (List.mem_of_getElem? (i := 21) rfl)) : Laid Z a0 "com/example/lintel/lintel/io/CsvReader" "com/example/lintel/lintel/io/CsvReader" "doubledQuotes" "[Z") (ty := (.array .boolean)) (by decide)
      have F_at := F367 (Or.inl (hw _ (List.mem_of_getElem? (i := 44) rfl)) : Laid Z a0 "com/example/lintel/lintel/io/CsvReader" "com/example/lintel/lintel/io/CsvReader" "at" "I") (ty := .int) (by decide)
      have F_row := F367 (Or.inl (hw _ (List.mem_of_getElem? (i := 51) rfl)) : Laid Z a0 "com/example/lintel/lintel/io/CsvReader" "com/example/lintel/lintel/io/CsvReader" "row" "I") (ty := .int) (by decide)
      have F_bytesOr := F367 (Or.inl (hw _ (List.mem_of_getElem? (i := 63) rfl)) : Laid Z a0 "com/example/lintel/lintel/io/CsvReader" "com/example/lintel/lintel/io/CsvReader" "bytesOr" "I") (ty := .int) (by decide)
      have F_size := F367 (Or.inl (hw _ (List.mem_of_getElem? (i := 53) rfl)) : Laid Z a0 "com/example/lintel/lintel/io/CsvReader" "com/example/lintel/lintel/io/CsvReader" "size" "I") (ty := .int) (by decide)
      refine g_dup P367 d0_356 rfl ?_
      refine g_aload P367 d0_357 rfl rfl ?_
      refine g_special P367 a [(.ref tx)] (rest := [(.ref a)]) (W := 1) d0_359 rfl (hw _ (List.mem_of_getElem? (i := 9) rfl)) (hw _ (List.mem_of_getElem? (i := 10) rfl)) (hw _ (List.mem_of_getElem? (i := 8) rfl)) (hw _ (List.mem_of_getElem? (i := 11) rfl)) (by decide) (rm_init l Z a0 hw _ n0 a tx bm kt kb t0 vb ga A367 F_text F_length F_starts F_ends F_doubledQuotes F_at F_row F_bytesOr F_size AT lt hB txl txa (S_BOM.ext X) (AM.ext X) lb gm bma) pd_9 rfl rfl rfl rfl (by decide) (by decide) (by decide) (by decide) fun v368 T368 h368 P368 q368 => ?_
      obtain ⟨rfl, sa, ea, da, ks, ke, kd, F, A, D1, B⟩ := q368
      have AX := AX.blw B xpl
      refine g_astore P368 d0_362 rfl #[.val (.int p1), .val (.int p2), .val (.int p3), .val (.int p4), .val (.int (1 : Int32)), .val (.int (2 : Int32)), .val (.int (1 : Int32)), .val (.ref tx), .val (.ref xp), .val (.int (iN 32)), .val (.ref a), .unset] rfl ?_
      refine g_aload P368 d0_364 rfl rfl ?_
      refine g_virtual P368 a [] (rest := []) (W := 0) d0_366 (hw _ (List.mem_of_getElem? (i := 45) rfl)) (hw _ (List.mem_of_getElem? (i := 46) rfl)) (hw _ (List.mem_of_getElem? (i := 48) rfl)) (hw _ (List.mem_of_getElem? (i := 47) rfl)) (hw _ (List.mem_of_getElem? (i := 8) rfl)) (hw _ (List.mem_of_getElem? (i := 49) rfl)) (by decide) F.exa (rm_next l Z a0 hw _ n0 a a tx sa ea da kt ks ke kd t0 _ _ _ _ _ _ [(s0, e0, 32)] ga F A hB D1 (by decide) hR (by simp)) pd_10 rfl rfl rfl rfl (by decide) (by decide) (by decide) (by decide) fun v369 T369 h369 P369 q369 => ?_
      obtain ⟨rfl, av, rv, bo, st, en, dq, F, A, hG, B⟩ := q369
      have AX := AX.blw B xpl
      refine g_ifYes P369 d0_369 (by decide) 374 (by decide) (by decide) ?_
      refine g_aload P369 d0_374 rfl rfl ?_
      refine g_virtual P369 a [] (rest := []) (W := 0) d0_376 (hw _ (List.mem_of_getElem? (i := 68) rfl)) (hw _ (List.mem_of_getElem? (i := 69) rfl)) (hw _ (List.mem_of_getElem? (i := 71) rfl)) (hw _ (List.mem_of_getElem? (i := 70) rfl)) (hw _ (List.mem_of_getElem? (i := 8) rfl)) (hw _ (List.mem_of_getElem? (i := 72) rfl)) (by decide) F.exa (rm_size l Z a0 hw _ n0 a a tx sa ea da kt ks ke kd t0 [] [] [] _ _ _ _ F) pd_2 rfl rfl rfl rfl (by decide) (by decide) (by decide) (by decide) fun v370 T370 h370 P370 q370 => ?_
      obtain ⟨rfl, rfl⟩ := q370
      refine g_iload P370 d0_379 rfl ?_
      refine g_icmpYes P370 d0_381 (teq rfl).1 386 (by decide) (by decide) ?_
      refine g_aload P370 d0_386 rfl rfl ?_
      refine g_iconst (v := (0 : Int32)) P370 d0_388 (by rfl) ?_
      refine g_virtual P370 a [(.int (0 : Int32))] (rest := []) (W := 0) d0_389 (hw _ (List.mem_of_getElem? (i := 73) rfl)) (hw _ (List.mem_of_getElem? (i := 74) rfl)) (hw _ (List.mem_of_getElem? (i := 76) rfl)) (hw _ (List.mem_of_getElem? (i := 75) rfl)) (hw _ (List.mem_of_getElem? (i := 8) rfl)) (hw _ (List.mem_of_getElem? (i := 77) rfl)) (by decide) F.exa (rm_length l Z a0 hw _ n0 a a tx sa ea da kt ks ke kd t0 _ _ _ _ _ _ _ (0 : Int32) (iN s0) (iN e0) 0 F A (by decide) (hG 0 _ rfl).1 (hG 0 _ rfl).2) pd_0 rfl rfl rfl rfl (by decide) (by decide) (by decide) (by decide) fun v371 T371 h371 P371 q371 => ?_
      obtain ⟨rfl, rfl⟩ := q371
      refine g_aload P371 d0_392 rfl rfl ?_
      refine g_iconst (v := (0 : Int32)) P371 d0_394 (by rfl) ?_
      refine g_iaload (i := 0) (v := (.int (iN e0 - iN s0))) P371 d0_395 AX (by decide) rfl ?_
      refine g_icmpNo P371 d0_396 (teq rfl).2 ?_
      refine g_iconst (v := (1 : Int32)) P371 d0_399 (by rfl) ?_
      refine g_goto P371 d0_400 404 (by decide) (by decide) ?_
      refine g_istore P371 d0_404 #[.val (.int p1), .val (.int p2), .val (.int p3), .val (.int p4), .val (.int (1 : Int32)), .val (.int (2 : Int32)), .val (.int (1 : Int32)), .val (.ref tx), .val (.ref xp), .val (.int (iN 32)), .val (.ref a), .val (.int (1 : Int32))] rfl ?_
      refine g_iload P371 d0_406 rfl ?_
      refine g_iconst (v := (1 : Int32)) P371 d0_408 (by rfl) ?_
      refine g_icmpYes P371 d0_409 (by decide) 437 (by decide) (by decide) ?_
      refine g_iload P371 d0_437 rfl ?_
      refine g_iconst (v := (2 : Int32)) P371 d0_439 (by rfl) ?_
      refine g_icmpYes P371 d0_440 (by decide) 468 (by decide) (by decide) ?_
      refine g_iload P371 d0_468 rfl ?_
      exact g_retZ P371 d0_470 (by decide) (by decide) (by decide) rfl
    · refine g_static P350 [(.ref tx), (.int (0 : Int32)), (.ref xp), (.int (0 : Int32)), (.int p1), (.int p2), (.int (1 : Int32)), (.int (1 : Int32))] (rest := []) (W := 0) d0_245 (hw _ (List.mem_of_getElem? (i := 2) rfl)) (hw _ (List.mem_of_getElem? (i := 3) rfl)) (hw _ (List.mem_of_getElem? (i := 4) rfl)) (hw _ (List.mem_of_getElem? (i := 5) rfl)) (by decide) (rm_field_end l Z a0 hw _ n0 tx xp kt kx t _ (0) 0 (0 : Int32) p1 p2 (1 : Int32) AT lt hB hZ (by omega) AX (by decide) (dT rfl) ge gx xt tx_ (by decide)) pd_8 rfl rfl rfl rfl (by decide) (by decide) (by decide) (by decide) fun v372 T372 h372 P372 q372 => ?_
      obtain ⟨t0, s0, e0, rfl, AT, lt, hB, AX, hF0, hlow, K⟩ := q372
      have X := ext_below X (Below.refl.keep K (in2 gt gxx)) (Nat.le_refl _)
      have o0 := hF0.le
      refine g_istore P372 d0_248 #[.val (.int p1), .val (.int p2), .val (.int p3), .val (.int p4), .val (.int (1 : Int32)), .val (.int (3 : Int32)), .val (.int (1 : Int32)), .val (.ref tx), .val (.ref xp), .val (.int (iN 32)), .unset, .unset] rfl ?_
      refine g_iload P372 d0_250 rfl ?_
      refine g_iconst (v := (1 : Int32)) P372 d0_252 (by rfl) ?_
      refine g_icmpYes P372 d0_253 (by decide) 283 (by decide) (by decide) ?_
      refine g_iload P372 d0_283 rfl ?_
      refine g_iconst (v := (2 : Int32)) P372 d0_285 (by rfl) ?_
      refine g_icmpYes P372 d0_286 (by decide) 316 (by decide) (by decide) ?_
      refine g_iload P372 d0_316 rfl ?_
      refine g_ifYes P372 d0_318 (by decide) 331 (by decide) (by decide) ?_
      refine g_iload P372 d0_331 rfl ?_
      refine g_iconst (v := (1 : Int32)) P372 d0_333 (by rfl) ?_
      refine g_icmpYes P372 d0_334 (by decide) 353 (by decide) (by decide) ?_
      have hE : EndAt t0 32 := Or.inl rfl
      have hR : Rec t0 0 [(s0, e0, 32)] := ⟨hF0, (by omega : @LE.le Nat _ 32 32), hE⟩
      refine g_new P372 d0_353 (hw _ (List.mem_of_getElem? (i := 6) rfl)) (hw _ (List.mem_of_getElem? (i := 7) rfl)) (hw _ (List.mem_of_getElem? (i := 8) rfl)) (by decide) (by decide) fun T373 h373 a P373 e373 E373 A373 F373 => ?_
      have lt1 := AT.lt
      have lx1 := AX.lt
      have X := ext_trans X E373
      have AT := AT.ext E373
      have AX := AX.ext E373
      have txl : tx < a := (by omega : @LT.lt Nat _ tx a)
      have txa : tx ≠ a := nN (by omega)
      have xpl : @LT.lt Nat _ xp a := by omega
      have ga : n0 ≤ a := by omega
      have bma : bm ≠ a := nN (by have := AM.lt; omega)
      have gza : h0.size ≤ a := by omega
      have F_text := F373 (Or.inr (hw _ (List.mem_of_getElem? (i := 23) rfl)) : Laid Z a0 "com/example/lintel/lintel/io/CsvReader" "com/example/lintel/lintel/io/CsvReader" "text" "[B") (ty := (.array .byte)) (by decide)
      have F_length := F373 (Or.inr (hw _ (List.mem_of_getElem? (i := 25) rfl)) : Laid Z a0 "com/example/lintel/lintel/io/CsvReader" "com/example/lintel/lintel/io/CsvReader" "length" "I") (ty := .int) (by decide)
      have F_starts := F373 (Or.inl (hw _ (List.mem_of_getElem? (i := 16) rfl)) : Laid Z a0 "com/example/lintel/lintel/io/CsvReader" "com/example/lintel/lintel/io/CsvReader" "starts" "[I") (ty := (.array .int)) (by decide)
      have F_ends := F373 (Or.inl (hw _ (List.mem_of_getElem? (i := 18) rfl)) : Laid Z a0 "com/example/lintel/lintel/io/CsvReader" "com/example/lintel/lintel/io/CsvReader" "ends" "[I") (ty := (.array .int)) (by decide)
      have F_doubledQuotes := F373 (Or.inl (hw _ (List.mem_of_getElem? (i := 21) rfl)) : Laid Z a0 "com/example/lintel/lintel/io/CsvReader" "com/example/lintel/lintel/io/CsvReader" "doubledQuotes" "[Z") (ty := (.array .boolean)) (by decide)
      have F_at := F373 (Or.inl (hw _ (List.mem_of_getElem? (i := 44) rfl)) : Laid Z a0 "com/example/lintel/lintel/io/CsvReader" "com/example/lintel/lintel/io/CsvReader" "at" "I") (ty := .int) (by decide)
      have F_row := F373 (Or.inl (hw _ (List.mem_of_getElem? (i := 51) rfl)) : Laid Z a0 "com/example/lintel/lintel/io/CsvReader" "com/example/lintel/lintel/io/CsvReader" "row" "I") (ty := .int) (by decide)
      have F_bytesOr := F373 (Or.inl (hw _ (List.mem_of_getElem? (i := 63) rfl)) : Laid Z a0 "com/example/lintel/lintel/io/CsvReader" "com/example/lintel/lintel/io/CsvReader" "bytesOr" "I") (ty := .int) (by decide)
      have F_size := F373 (Or.inl (hw _ (List.mem_of_getElem? (i := 53) rfl)) : Laid Z a0 "com/example/lintel/lintel/io/CsvReader" "com/example/lintel/lintel/io/CsvReader" "size" "I") (ty := .int) (by decide)
      refine g_dup P373 d0_356 rfl ?_
      refine g_aload P373 d0_357 rfl rfl ?_
      refine g_special P373 a [(.ref tx)] (rest := [(.ref a)]) (W := 1) d0_359 rfl (hw _ (List.mem_of_getElem? (i := 9) rfl)) (hw _ (List.mem_of_getElem? (i := 10) rfl)) (hw _ (List.mem_of_getElem? (i := 8) rfl)) (hw _ (List.mem_of_getElem? (i := 11) rfl)) (by decide) (rm_init l Z a0 hw _ n0 a tx bm kt kb t0 vb ga A373 F_text F_length F_starts F_ends F_doubledQuotes F_at F_row F_bytesOr F_size AT lt hB txl txa (S_BOM.ext X) (AM.ext X) lb gm bma) pd_9 rfl rfl rfl rfl (by decide) (by decide) (by decide) (by decide) fun v374 T374 h374 P374 q374 => ?_
      obtain ⟨rfl, sa, ea, da, ks, ke, kd, F, A, D1, B⟩ := q374
      have AX := AX.blw B xpl
      refine g_astore P374 d0_362 rfl #[.val (.int p1), .val (.int p2), .val (.int p3), .val (.int p4), .val (.int (1 : Int32)), .val (.int (3 : Int32)), .val (.int (1 : Int32)), .val (.ref tx), .val (.ref xp), .val (.int (iN 32)), .val (.ref a), .unset] rfl ?_
      refine g_aload P374 d0_364 rfl rfl ?_
      refine g_virtual P374 a [] (rest := []) (W := 0) d0_366 (hw _ (List.mem_of_getElem? (i := 45) rfl)) (hw _ (List.mem_of_getElem? (i := 46) rfl)) (hw _ (List.mem_of_getElem? (i := 48) rfl)) (hw _ (List.mem_of_getElem? (i := 47) rfl)) (hw _ (List.mem_of_getElem? (i := 8) rfl)) (hw _ (List.mem_of_getElem? (i := 49) rfl)) (by decide) F.exa (rm_next l Z a0 hw _ n0 a a tx sa ea da kt ks ke kd t0 _ _ _ _ _ _ [(s0, e0, 32)] ga F A hB D1 (by decide) hR (by simp)) pd_10 rfl rfl rfl rfl (by decide) (by decide) (by decide) (by decide) fun v375 T375 h375 P375 q375 => ?_
      obtain ⟨rfl, av, rv, bo, st, en, dq, F, A, hG, B⟩ := q375
      have AX := AX.blw B xpl
      refine g_ifYes P375 d0_369 (by decide) 374 (by decide) (by decide) ?_
      refine g_aload P375 d0_374 rfl rfl ?_
      refine g_virtual P375 a [] (rest := []) (W := 0) d0_376 (hw _ (List.mem_of_getElem? (i := 68) rfl)) (hw _ (List.mem_of_getElem? (i := 69) rfl)) (hw _ (List.mem_of_getElem? (i := 71) rfl)) (hw _ (List.mem_of_getElem? (i := 70) rfl)) (hw _ (List.mem_of_getElem? (i := 8) rfl)) (hw _ (List.mem_of_getElem? (i := 72) rfl)) (by decide) F.exa (rm_size l Z a0 hw _ n0 a a tx sa ea da kt ks ke kd t0 [] [] [] _ _ _ _ F) pd_2 rfl rfl rfl rfl (by decide) (by decide) (by decide) (by decide) fun v376 T376 h376 P376 q376 => ?_
      obtain ⟨rfl, rfl⟩ := q376
      refine g_iload P376 d0_379 rfl ?_
      refine g_icmpYes P376 d0_381 (teq rfl).1 386 (by decide) (by decide) ?_
      refine g_aload P376 d0_386 rfl rfl ?_
      refine g_iconst (v := (0 : Int32)) P376 d0_388 (by rfl) ?_
      refine g_virtual P376 a [(.int (0 : Int32))] (rest := []) (W := 0) d0_389 (hw _ (List.mem_of_getElem? (i := 73) rfl)) (hw _ (List.mem_of_getElem? (i := 74) rfl)) (hw _ (List.mem_of_getElem? (i := 76) rfl)) (hw _ (List.mem_of_getElem? (i := 75) rfl)) (hw _ (List.mem_of_getElem? (i := 8) rfl)) (hw _ (List.mem_of_getElem? (i := 77) rfl)) (by decide) F.exa (rm_length l Z a0 hw _ n0 a a tx sa ea da kt ks ke kd t0 _ _ _ _ _ _ _ (0 : Int32) (iN s0) (iN e0) 0 F A (by decide) (hG 0 _ rfl).1 (hG 0 _ rfl).2) pd_0 rfl rfl rfl rfl (by decide) (by decide) (by decide) (by decide) fun v377 T377 h377 P377 q377 => ?_
      obtain ⟨rfl, rfl⟩ := q377
      refine g_aload P377 d0_392 rfl rfl ?_
      refine g_iconst (v := (0 : Int32)) P377 d0_394 (by rfl) ?_
      refine g_iaload (i := 0) (v := (.int (iN e0 - iN s0))) P377 d0_395 AX (by decide) rfl ?_
      refine g_icmpNo P377 d0_396 (teq rfl).2 ?_
      refine g_iconst (v := (1 : Int32)) P377 d0_399 (by rfl) ?_
      refine g_goto P377 d0_400 404 (by decide) (by decide) ?_
      refine g_istore P377 d0_404 #[.val (.int p1), .val (.int p2), .val (.int p3), .val (.int p4), .val (.int (1 : Int32)), .val (.int (3 : Int32)), .val (.int (1 : Int32)), .val (.ref tx), .val (.ref xp), .val (.int (iN 32)), .val (.ref a), .val (.int (1 : Int32))] rfl ?_
      refine g_iload P377 d0_406 rfl ?_
      refine g_iconst (v := (1 : Int32)) P377 d0_408 (by rfl) ?_
      refine g_icmpYes P377 d0_409 (by decide) 437 (by decide) (by decide) ?_
      refine g_iload P377 d0_437 rfl ?_
      refine g_iconst (v := (2 : Int32)) P377 d0_439 (by rfl) ?_
      refine g_icmpYes P377 d0_440 (by decide) 468 (by decide) (by decide) ?_
      refine g_iload P377 d0_468 rfl ?_
      exact g_retZ P377 d0_470 (by decide) (by decide) (by decide) rfl
    · refine g_static P350 [(.ref tx), (.int (0 : Int32)), (.ref xp), (.int (0 : Int32)), (.int p1), (.int p2), (.int (2 : Int32)), (.int (0 : Int32))] (rest := []) (W := 0) d0_245 (hw _ (List.mem_of_getElem? (i := 2) rfl)) (hw _ (List.mem_of_getElem? (i := 3) rfl)) (hw _ (List.mem_of_getElem? (i := 4) rfl)) (hw _ (List.mem_of_getElem? (i := 5) rfl)) (by decide) (rm_field_mid0 l Z a0 hw _ n0 tx xp kt kx t _ (0) 0 (0 : Int32) p1 p2 (2 : Int32) AT lt hB hZ (by omega) AX (by decide) (dT rfl) ge gx xt tx_) pd_8 rfl rfl rfl rfl (by decide) (by decide) (by decide) (by decide) fun v378 T378 h378 P378 q378 => ?_
      obtain ⟨t0, s0, e0, f0, rfl, AT, lt, hB, AX, hF0, hf0, hlow, hZ, K⟩ := q378
      have X := ext_below X (Below.refl.keep K (in2 gt gxx)) (Nat.le_refl _)
      have o0 := hF0.le
      refine g_istore P378 d0_248 #[.val (.int p1), .val (.int p2), .val (.int p3), .val (.int p4), .val (.int (2 : Int32)), .val (.int (0 : Int32)), .val (.int (0 : Int32)), .val (.ref tx), .val (.ref xp), .val (.int (iN f0)), .unset, .unset] rfl ?_
      refine g_iload P378 d0_250 rfl ?_
      refine g_iconst (v := (1 : Int32)) P378 d0_252 (by rfl) ?_
      refine g_icmpNo P378 d0_253 (by decide) ?_
      refine g_aload P378 d0_256 rfl rfl ?_
      refine g_iload P378 d0_258 rfl ?_
      refine g_bipush (v := (44 : Int32)) P378 d0_260 (by rfl) ?_
      refine g_bastoreB (i := f0) (w := 44) P378 d0_262 AT (ix_iN (by omega)) (by simp only [List.length_map, List.length_set]; omega) ge (by decide) fun T379 h379 P379 W379 AT => ?_
      rw [map_set'] at AT
      have X := ext_wr X W379 gt
      have AX := AX.other W379 xt
      obtain ⟨c0, ht_c0⟩ : ∃ q, q = t0.set f0 44 := ⟨_, rfl⟩
      rw [← ht_c0] at AT
      have hF0 := hF0.congr (fun i hi => (by rw [ht_c0, List.getElem?_set_ne (by omega)] : c0[i]? = t0[i]?))
      have g_c0 : c0[f0]? = some 44 := by rw [ht_c0, List.getElem?_set_self (by omega)]
      have lt : c0.length = 32 := by rw [ht_c0, List.length_set]; exact lt
      have hB : AllB c0 := by rw [ht_c0]; exact hB.set (by decide)
      have hZ : Zs c0 (f0 + 1) 32 := by rw [ht_c0]; exact (hZ.sub (by omega) (Nat.le_refl _)).set (by omega)
      refine g_aload P379 d0_263 rfl rfl ?_
      refine g_iload P379 d0_265 rfl ?_
      refine g_iconst (v := (1 : Int32)) P379 d0_267 (by rfl) ?_
      refine g_iadd (v := (iN (f0 + 1))) P379 d0_268 (iN_add _ 1) ?_
      refine g_aload P379 d0_269 rfl rfl ?_
      refine g_iconst (v := (1 : Int32)) P379 d0_271 (by rfl) ?_
      refine g_iloadN P379 d0_272 rfl ?_
      refine g_iloadN P379 d0_273 rfl ?_
      refine g_iload P379 d0_274 rfl ?_
      refine g_iload P379 d0_276 rfl ?_
      refine g_static P379 [(.ref tx), (.int (iN (f0 + 1))), (.ref xp), (.int (1 : Int32)), (.int p1), (.int p3), (.int (2 : Int32)), (.int (0 : Int32))] (rest := []) (W := 0) d0_278 (hw _ (List.mem_of_getElem? (i := 2) rfl)) (hw _ (List.mem_of_getElem? (i := 3) rfl)) (hw _ (List.mem_of_getElem? (i := 4) rfl)) (hw _ (List.mem_of_getElem? (i := 5) rfl)) (by decide) (rm_field_mid0 l Z a0 hw _ n0 tx xp kt kx c0 _ (f0 + 1) 1 (1 : Int32) p1 p3 (2 : Int32) AT lt hB hZ (by omega) AX (by decide) (dT rfl) ge gx xt tx_) pd_8 rfl rfl rfl rfl (by decide) (by decide) (by decide) (by decide) fun v380 T380 h380 P380 q380 => ?_
      obtain ⟨t1, s1, e1, f1, rfl, AT, lt, hB, AX, hF1, hf1, hlow, hZ, K⟩ := q380
      have X := ext_below X (Below.refl.keep K (in2 gt gxx)) (Nat.le_refl _)
      have hF0 := hF0.congr (fun i hi => hlow i (by omega))
      have g_c0 : t1[f0]? = some 44 := (hlow f0 (by omega)).trans g_c0
      have o1 := hF1.le
      refine g_istore P380 d0_281 #[.val (.int p1), .val (.int p2), .val (.int p3), .val (.int p4), .val (.int (2 : Int32)), .val (.int (0 : Int32)), .val (.int (0 : Int32)), .val (.ref tx), .val (.ref xp), .val (.int (iN f1)), .unset, .unset] rfl ?_
      refine g_iload P380 d0_283 rfl ?_
      refine g_iconst (v := (2 : Int32)) P380 d0_285 (by rfl) ?_
      refine g_icmpYes P380 d0_286 (by decide) 316 (by decide) (by decide) ?_
      refine g_iload P380 d0_316 rfl ?_
      refine g_ifNo P380 d0_318 (by decide) ?_
      refine g_aload P380 d0_321 rfl rfl ?_
      refine g_iload P380 d0_323 rfl ?_
      refine g_bipush (v := (10 : Int32)) P380 d0_325 (by rfl) ?_
      refine g_bastoreB (i := f1) (w := 10) P380 d0_327 AT (ix_iN (by omega)) (by simp only [List.length_map, List.length_set]; omega) ge (by decide) fun T381 h381 P381 W381 AT => ?_
      rw [map_set'] at AT
      have X := ext_wr X W381 gt
      have AX := AX.other W381 xt
      obtain ⟨te, ht_te⟩ : ∃ q, q = t1.set f1 10 := ⟨_, rfl⟩
      rw [← ht_te] at AT
      have hF0 := hF0.congr (fun i hi => (by rw [ht_te, List.getElem?_set_ne (by omega)] : te[i]? = t1[i]?))
      have hF1 := hF1.congr (fun i hi => (by rw [ht_te, List.getElem?_set_ne (by omega)] : te[i]? = t1[i]?))
      have g_c0 : te[f0]? = some 44 := by rw [ht_te, List.getElem?_set_ne (by omega)]; exact g_c0
      have g_te : te[f1]? = some 10 := by rw [ht_te, List.getElem?_set_self (by omega)]
      have lt : te.length = 32 := by rw [ht_te, List.length_set]; exact lt
      have hB : AllB te := by rw [ht_te]; exact hB.set (by decide)
      refine g_goto P381 d0_328 353 (by decide) (by decide) ?_
      have hE : EndAt te f1 := Or.inr (Or.inl g_te)
      have hR : Rec te 0 [(s0, e0, f0), (s1, e1, f1)] := ⟨hF0, g_c0, ⟨hF1, (by omega : @LE.le Nat _ f1 32), hE⟩⟩
      refine g_new P381 d0_353 (hw _ (List.mem_of_getElem? (i := 6) rfl)) (hw _ (List.mem_of_getElem? (i := 7) rfl)) (hw _ (List.mem_of_getElem? (i := 8) rfl)) (by decide) (by decide) fun T382 h382 a P382 e382 E382 A382 F382 => ?_
      have lt1 := AT.lt
      have lx1 := AX.lt
      have X := ext_trans X E382
      have AT := AT.ext E382
      have AX := AX.ext E382
      have txl : tx < a := (by omega : @LT.lt Nat _ tx a)
      have txa : tx ≠ a := nN (by omega)
      have xpl : @LT.lt Nat _ xp a := by omega
      have ga : n0 ≤ a := by omega
      have bma : bm ≠ a := nN (by have := AM.lt; omega)
      have gza : h0.size ≤ a := by omega
      have F_text := F382 (Or.inr (hw _ (List.mem_of_getElem? (i := 23) rfl)) : Laid Z a0 "com/example/lintel/lintel/io/CsvReader" "com/example/lintel/lintel/io/CsvReader" "text" "[B") (ty := (.array .byte)) (by decide)
      have F_length := F382 (Or.inr (hw _ (List.mem_of_getElem? (i := 25) rfl)) : Laid Z a0 "com/example/lintel/lintel/io/CsvReader" "com/example/lintel/lintel/io/CsvReader" "length" "I") (ty := .int) (by decide)
      have F_starts := F382 (Or.inl (hw _ (List.mem_of_getElem? (i := 16) rfl)) : Laid Z a0 "com/example/lintel/lintel/io/CsvReader" "com/example/lintel/lintel/io/CsvReader" "starts" "[I") (ty := (.array .int)) (by decide)
      have F_ends := F382 (Or.inl (hw _ (List.mem_of_getElem? (i := 18) rfl)) : Laid Z a0 "com/example/lintel/lintel/io/CsvReader" "com/example/lintel/lintel/io/CsvReader" "ends" "[I") (ty := (.array .int)) (by decide)
      have F_doubledQuotes := F382 (Or.inl (hw _ (List.mem_of_getElem? (i := 21) rfl)) : Laid Z a0 "com/example/lintel/lintel/io/CsvReader" "com/example/lintel/lintel/io/CsvReader" "doubledQuotes" "[Z") (ty := (.array .boolean)) (by decide)
      have F_at := F382 (Or.inl (hw _ (List.mem_of_getElem? (i := 44) rfl)) : Laid Z a0 "com/example/lintel/lintel/io/CsvReader" "com/example/lintel/lintel/io/CsvReader" "at" "I") (ty := .int) (by decide)
      have F_row := F382 (Or.inl (hw _ (List.mem_of_getElem? (i := 51) rfl)) : Laid Z a0 "com/example/lintel/lintel/io/CsvReader" "com/example/lintel/lintel/io/CsvReader" "row" "I") (ty := .int) (by decide)
      have F_bytesOr := F382 (Or.inl (hw _ (List.mem_of_getElem? (i := 63) rfl)) : Laid Z a0 "com/example/lintel/lintel/io/CsvReader" "com/example/lintel/lintel/io/CsvReader" "bytesOr" "I") (ty := .int) (by decide)
      have F_size := F382 (Or.inl (hw _ (List.mem_of_getElem? (i := 53) rfl)) : Laid Z a0 "com/example/lintel/lintel/io/CsvReader" "com/example/lintel/lintel/io/CsvReader" "size" "I") (ty := .int) (by decide)
      refine g_dup P382 d0_356 rfl ?_
      refine g_aload P382 d0_357 rfl rfl ?_
      refine g_special P382 a [(.ref tx)] (rest := [(.ref a)]) (W := 1) d0_359 rfl (hw _ (List.mem_of_getElem? (i := 9) rfl)) (hw _ (List.mem_of_getElem? (i := 10) rfl)) (hw _ (List.mem_of_getElem? (i := 8) rfl)) (hw _ (List.mem_of_getElem? (i := 11) rfl)) (by decide) (rm_init l Z a0 hw _ n0 a tx bm kt kb te vb ga A382 F_text F_length F_starts F_ends F_doubledQuotes F_at F_row F_bytesOr F_size AT lt hB txl txa (S_BOM.ext X) (AM.ext X) lb gm bma) pd_9 rfl rfl rfl rfl (by decide) (by decide) (by decide) (by decide) fun v383 T383 h383 P383 q383 => ?_
      obtain ⟨rfl, sa, ea, da, ks, ke, kd, F, A, D1, B⟩ := q383
      have AX := AX.blw B xpl
      refine g_astore P383 d0_362 rfl #[.val (.int p1), .val (.int p2), .val (.int p3), .val (.int p4), .val (.int (2 : Int32)), .val (.int (0 : Int32)), .val (.int (0 : Int32)), .val (.ref tx), .val (.ref xp), .val (.int (iN f1)), .val (.ref a), .unset] rfl ?_
      refine g_aload P383 d0_364 rfl rfl ?_
      refine g_virtual P383 a [] (rest := []) (W := 0) d0_366 (hw _ (List.mem_of_getElem? (i := 45) rfl)) (hw _ (List.mem_of_getElem? (i := 46) rfl)) (hw _ (List.mem_of_getElem? (i := 48) rfl)) (hw _ (List.mem_of_getElem? (i := 47) rfl)) (hw _ (List.mem_of_getElem? (i := 8) rfl)) (hw _ (List.mem_of_getElem? (i := 49) rfl)) (by decide) F.exa (rm_next l Z a0 hw _ n0 a a tx sa ea da kt ks ke kd te _ _ _ _ _ _ [(s0, e0, f0), (s1, e1, f1)] ga F A hB D1 (by decide) hR (by simp)) pd_10 rfl rfl rfl rfl (by decide) (by decide) (by decide) (by decide) fun v384 T384 h384 P384 q384 => ?_
      obtain ⟨rfl, av, rv, bo, st, en, dq, F, A, hG, B⟩ := q384
      have AX := AX.blw B xpl
      refine g_ifYes P384 d0_369 (by decide) 374 (by decide) (by decide) ?_
      refine g_aload P384 d0_374 rfl rfl ?_
      refine g_virtual P384 a [] (rest := []) (W := 0) d0_376 (hw _ (List.mem_of_getElem? (i := 68) rfl)) (hw _ (List.mem_of_getElem? (i := 69) rfl)) (hw _ (List.mem_of_getElem? (i := 71) rfl)) (hw _ (List.mem_of_getElem? (i := 70) rfl)) (hw _ (List.mem_of_getElem? (i := 8) rfl)) (hw _ (List.mem_of_getElem? (i := 72) rfl)) (by decide) F.exa (rm_size l Z a0 hw _ n0 a a tx sa ea da kt ks ke kd te [] [] [] _ _ _ _ F) pd_2 rfl rfl rfl rfl (by decide) (by decide) (by decide) (by decide) fun v385 T385 h385 P385 q385 => ?_
      obtain ⟨rfl, rfl⟩ := q385
      refine g_iload P385 d0_379 rfl ?_
      refine g_icmpYes P385 d0_381 (teq rfl).1 386 (by decide) (by decide) ?_
      refine g_aload P385 d0_386 rfl rfl ?_
      refine g_iconst (v := (0 : Int32)) P385 d0_388 (by rfl) ?_
      refine g_virtual P385 a [(.int (0 : Int32))] (rest := []) (W := 0) d0_389 (hw _ (List.mem_of_getElem? (i := 73) rfl)) (hw _ (List.mem_of_getElem? (i := 74) rfl)) (hw _ (List.mem_of_getElem? (i := 76) rfl)) (hw _ (List.mem_of_getElem? (i := 75) rfl)) (hw _ (List.mem_of_getElem? (i := 8) rfl)) (hw _ (List.mem_of_getElem? (i := 77) rfl)) (by decide) F.exa (rm_length l Z a0 hw _ n0 a a tx sa ea da kt ks ke kd te _ _ _ _ _ _ _ (0 : Int32) (iN s0) (iN e0) 0 F A (by decide) (hG 0 _ rfl).1 (hG 0 _ rfl).2) pd_0 rfl rfl rfl rfl (by decide) (by decide) (by decide) (by decide) fun v386 T386 h386 P386 q386 => ?_
      obtain ⟨rfl, rfl⟩ := q386
      refine g_aload P386 d0_392 rfl rfl ?_
      refine g_iconst (v := (0 : Int32)) P386 d0_394 (by rfl) ?_
      refine g_iaload (i := 0) (v := (.int (iN e0 - iN s0))) P386 d0_395 AX (by decide) rfl ?_
      refine g_icmpNo P386 d0_396 (teq rfl).2 ?_
      refine g_iconst (v := (1 : Int32)) P386 d0_399 (by rfl) ?_
      refine g_goto P386 d0_400 404 (by decide) (by decide) ?_
      refine g_istore P386 d0_404 #[.val (.int p1), .val (.int p2), .val (.int p3), .val (.int p4), .val (.int (2 : Int32)), .val (.int (0 : Int32)), .val (.int (0 : Int32)), .val (.ref tx), .val (.ref xp), .val (.int (iN f1)), .val (.ref a), .val (.int (1 : Int32))] rfl ?_
      refine g_iload P386 d0_406 rfl ?_
      refine g_iconst (v := (1 : Int32)) P386 d0_408 (by rfl) ?_
      refine g_icmpNo P386 d0_409 (by decide) ?_
      refine g_iload P386 d0_412 rfl ?_
      refine g_ifNo P386 d0_414 (by decide) ?_
      refine g_aload P386 d0_417 rfl rfl ?_
      refine g_iconst (v := (1 : Int32)) P386 d0_419 (by rfl) ?_
      refine g_virtual P386 a [(.int (1 : Int32))] (rest := []) (W := 0) d0_420 (hw _ (List.mem_of_getElem? (i := 73) rfl)) (hw _ (List.mem_of_getElem? (i := 74) rfl)) (hw _ (List.mem_of_getElem? (i := 76) rfl)) (hw _ (List.mem_of_getElem? (i := 75) rfl)) (hw _ (List.mem_of_getElem? (i := 8) rfl)) (hw _ (List.mem_of_getElem? (i := 77) rfl)) (by decide) F.exa (rm_length l Z a0 hw _ n0 a a tx sa ea da kt ks ke kd te _ _ _ _ _ _ _ (1 : Int32) (iN s1) (iN e1) 1 F A (by decide) (hG 1 _ rfl).1 (hG 1 _ rfl).2) pd_0 rfl rfl rfl rfl (by decide) (by decide) (by decide) (by decide) fun v387 T387 h387 P387 q387 => ?_
      obtain ⟨rfl, rfl⟩ := q387
      refine g_aload P387 d0_423 rfl rfl ?_
      refine g_iconst (v := (1 : Int32)) P387 d0_425 (by rfl) ?_
      refine g_iaload (i := 1) (v := (.int (iN e1 - iN s1))) P387 d0_426 AX (by decide) rfl ?_
      refine g_icmpNo P387 d0_427 (teq rfl).2 ?_
      refine g_iconst (v := (1 : Int32)) P387 d0_430 (by rfl) ?_
      refine g_goto P387 d0_431 435 (by decide) (by decide) ?_
      refine g_istore P387 d0_435 #[.val (.int p1), .val (.int p2), .val (.int p3), .val (.int p4), .val (.int (2 : Int32)), .val (.int (0 : Int32)), .val (.int (0 : Int32)), .val (.ref tx), .val (.ref xp), .val (.int (iN f1)), .val (.ref a), .val (.int (1 : Int32))] rfl ?_
      refine g_iload P387 d0_437 rfl ?_
      refine g_iconst (v := (2 : Int32)) P387 d0_439 (by rfl) ?_
      refine g_icmpYes P387 d0_440 (by decide) 468 (by decide) (by decide) ?_
      refine g_iload P387 d0_468 rfl ?_
      exact g_retZ P387 d0_470 (by decide) (by decide) (by decide) rfl
    · refine g_static P350 [(.ref tx), (.int (0 : Int32)), (.ref xp), (.int (0 : Int32)), (.int p1), (.int p2), (.int (2 : Int32)), (.int (0 : Int32))] (rest := []) (W := 0) d0_245 (hw _ (List.mem_of_getElem? (i := 2) rfl)) (hw _ (List.mem_of_getElem? (i := 3) rfl)) (hw _ (List.mem_of_getElem? (i := 4) rfl)) (hw _ (List.mem_of_getElem? (i := 5) rfl)) (by decide) (rm_field_mid0 l Z a0 hw _ n0 tx xp kt kx t _ (0) 0 (0 : Int32) p1 p2 (2 : Int32) AT lt hB hZ (by omega) AX (by decide) (dT rfl) ge gx xt tx_) pd_8 rfl rfl rfl rfl (by decide) (by decide) (by decide) (by decide) fun v388 T388 h388 P388 q388 => ?_
      obtain ⟨t0, s0, e0, f0, rfl, AT, lt, hB, AX, hF0, hf0, hlow, hZ, K⟩ := q388
      have X := ext_below X (Below.refl.keep K (in2 gt gxx)) (Nat.le_refl _)
      have o0 := hF0.le
      refine g_istore P388 d0_248 #[.val (.int p1), .val (.int p2), .val (.int p3), .val (.int p4), .val (.int (2 : Int32)), .val (.int (1 : Int32)), .val (.int (0 : Int32)), .val (.ref tx), .val (.ref xp), .val (.int (iN f0)), .unset, .unset] rfl ?_
      refine g_iload P388 d0_250 rfl ?_
      refine g_iconst (v := (1 : Int32)) P388 d0_252 (by rfl) ?_
      refine g_icmpNo P388 d0_253 (by decide) ?_
      refine g_aload P388 d0_256 rfl rfl ?_
      refine g_iload P388 d0_258 rfl ?_
      refine g_bipush (v := (44 : Int32)) P388 d0_260 (by rfl) ?_
      refine g_bastoreB (i := f0) (w := 44) P388 d0_262 AT (ix_iN (by omega)) (by simp only [List.length_map, List.length_set]; omega) ge (by decide) fun T389 h389 P389 W389 AT => ?_
      rw [map_set'] at AT
      have X := ext_wr X W389 gt
      have AX := AX.other W389 xt
      obtain ⟨c0, ht_c0⟩ : ∃ q, q = t0.set f0 44 := ⟨_, rfl⟩
      rw [← ht_c0] at AT
      have hF0 := hF0.congr (fun i hi => (by rw [ht_c0, List.getElem?_set_ne (by omega)] : c0[i]? = t0[i]?))
      have g_c0 : c0[f0]? = some 44 := by rw [ht_c0, List.getElem?_set_self (by omega)]
      have lt : c0.length = 32 := by rw [ht_c0, List.length_set]; exact lt
      have hB : AllB c0 := by rw [ht_c0]; exact hB.set (by decide)
      have hZ : Zs c0 (f0 + 1) 32 := by rw [ht_c0]; exact (hZ.sub (by omega) (Nat.le_refl _)).set (by omega)
      refine g_aload P389 d0_263 rfl rfl ?_
      refine g_iload P389 d0_265 rfl ?_
      refine g_iconst (v := (1 : Int32)) P389 d0_267 (by rfl) ?_
      refine g_iadd (v := (iN (f0 + 1))) P389 d0_268 (iN_add _ 1) ?_
      refine g_aload P389 d0_269 rfl rfl ?_
      refine g_iconst (v := (1 : Int32)) P389 d0_271 (by rfl) ?_
      refine g_iloadN P389 d0_272 rfl ?_
      refine g_iloadN P389 d0_273 rfl ?_
      refine g_iload P389 d0_274 rfl ?_
      refine g_iload P389 d0_276 rfl ?_
      refine g_static P389 [(.ref tx), (.int (iN (f0 + 1))), (.ref xp), (.int (1 : Int32)), (.int p1), (.int p3), (.int (2 : Int32)), (.int (0 : Int32))] (rest := []) (W := 0) d0_278 (hw _ (List.mem_of_getElem? (i := 2) rfl)) (hw _ (List.mem_of_getElem? (i := 3) rfl)) (hw _ (List.mem_of_getElem? (i := 4) rfl)) (hw _ (List.mem_of_getElem? (i := 5) rfl)) (by decide) (rm_field_mid0 l Z a0 hw _ n0 tx xp kt kx c0 _ (f0 + 1) 1 (1 : Int32) p1 p3 (2 : Int32) AT lt hB hZ (by omega) AX (by decide) (dT rfl) ge gx xt tx_) pd_8 rfl rfl rfl rfl (by decide) (by decide) (by decide) (by decide) fun v390 T390 h390 P390 q390 => ?_
      obtain ⟨t1, s1, e1, f1, rfl, AT, lt, hB, AX, hF1, hf1, hlow, hZ, K⟩ := q390
      have X := ext_below X (Below.refl.keep K (in2 gt gxx)) (Nat.le_refl _)
      have hF0 := hF0.congr (fun i hi => hlow i (by omega))
      have g_c0 : t1[f0]? = some 44 := (hlow f0 (by omega)).trans g_c0
      have o1 := hF1.le
      refine g_istore P390 d0_281 #[.val (.int p1), .val (.int p2), .val (.int p3), .val (.int p4), .val (.int (2 : Int32)), .val (.int (1 : Int32)), .val (.int (0 : Int32)), .val (.ref tx), .val (.ref xp), .val (.int (iN f1)), .unset, .unset] rfl ?_
      refine g_iload P390 d0_283 rfl ?_
      refine g_iconst (v := (2 : Int32)) P390 d0_285 (by rfl) ?_
      refine g_icmpYes P390 d0_286 (by decide) 316 (by decide) (by decide) ?_
      refine g_iload P390 d0_316 rfl ?_
      refine g_ifYes P390 d0_318 (by decide) 331 (by decide) (by decide) ?_
      refine g_iload P390 d0_331 rfl ?_
      refine g_iconst (v := (1 : Int32)) P390 d0_333 (by rfl) ?_
      refine g_icmpNo P390 d0_334 (by decide) ?_
      refine g_aload P390 d0_337 rfl rfl ?_
      refine g_iload P390 d0_339 rfl ?_
      refine g_bipush (v := (13 : Int32)) P390 d0_341 (by rfl) ?_
      refine g_bastoreB (i := f1) (w := 13) P390 d0_343 AT (ix_iN (by omega)) (by simp only [List.length_map, List.length_set]; omega) ge (by decide) fun T391 h391 P391 W391 AT => ?_
      rw [map_set'] at AT
      have X := ext_wr X W391 gt
      have AX := AX.other W391 xt
      obtain ⟨td, ht_td⟩ : ∃ q, q = t1.set f1 13 := ⟨_, rfl⟩
      rw [← ht_td] at AT
      have hF0 := hF0.congr (fun i hi => (by rw [ht_td, List.getElem?_set_ne (by omega)] : td[i]? = t1[i]?))
      have hF1 := hF1.congr (fun i hi => (by rw [ht_td, List.getElem?_set_ne (by omega)] : td[i]? = t1[i]?))
      have g_c0 : td[f0]? = some 44 := by rw [ht_td, List.getElem?_set_ne (by omega)]; exact g_c0
      have g_td : td[f1]? = some 13 := by rw [ht_td, List.getElem?_set_self (by omega)]
      have lt : td.length = 32 := by rw [ht_td, List.length_set]; exact lt
      have hB : AllB td := by rw [ht_td]; exact hB.set (by decide)
      refine g_aload P391 d0_344 rfl rfl ?_
      refine g_iload P391 d0_346 rfl ?_
      refine g_iconst (v := (1 : Int32)) P391 d0_348 (by rfl) ?_
      refine g_iadd (v := (iN (f1 + 1))) P391 d0_349 (iN_add _ 1) ?_
      refine g_bipush (v := (10 : Int32)) P391 d0_350 (by rfl) ?_
      refine g_bastoreB (i := (f1 + 1)) (w := 10) P391 d0_352 AT (ix_iN (by omega)) (by simp only [List.length_map, List.length_set]; omega) ge (by decide) fun T392 h392 P392 W392 AT => ?_
      rw [map_set'] at AT
      have X := ext_wr X W392 gt
      have AX := AX.other W392 xt
      obtain ⟨te, ht_te⟩ : ∃ q, q = td.set (f1 + 1) 10 := ⟨_, rfl⟩
      rw [← ht_te] at AT
      have hF0 := hF0.congr (fun i hi => (by rw [ht_te, List.getElem?_set_ne (by omega)] : te[i]? = td[i]?))
      have hF1 := hF1.congr (fun i hi => (by rw [ht_te, List.getElem?_set_ne (by omega)] : te[i]? = td[i]?))
      have g_c0 : te[f0]? = some 44 := by rw [ht_te, List.getElem?_set_ne (by omega)]; exact g_c0
      have g_te : te[(f1 + 1)]? = some 10 := by rw [ht_te, List.getElem?_set_self (by omega)]
      have lt : te.length = 32 := by rw [ht_te, List.length_set]; exact lt
      have hB : AllB te := by rw [ht_te]; exact hB.set (by decide)
      have g_td : te[f1]? = some 13 := by rw [ht_te, List.getElem?_set_ne (by omega)]; exact g_td
      have hE : EndAt te f1 := Or.inr (Or.inr ⟨g_td, g_te⟩)
      have hR : Rec te 0 [(s0, e0, f0), (s1, e1, f1)] := ⟨hF0, g_c0, ⟨hF1, (by omega : @LE.le Nat _ f1 32), hE⟩⟩
      refine g_new P392 d0_353 (hw _ (List.mem_of_getElem? (i := 6) rfl)) (hw _ (List.mem_of_getElem? (i := 7) rfl)) (hw _ (List.mem_of_getElem? (i := 8) rfl)) (by decide) (by decide) fun T393 h393 a P393 e393 E393 A393 F393 => ?_
      have lt1 := AT.lt
      have lx1 := AX.lt
      have X := ext_trans X E393
      have AT := AT.ext E393
      have AX := AX.ext E393
      have txl : tx < a := (by omega : @LT.lt Nat _ tx a)
      have txa : tx ≠ a := nN (by omega)
      have xpl : @LT.lt Nat _ xp a := by omega
      have ga : n0 ≤ a := by omega
      have bma : bm ≠ a := nN (by have := AM.lt; omega)
      have gza : h0.size ≤ a := by omega
      have F_text := F393 (Or.inr (hw _ (List.mem_of_getElem? (i := 23) rfl)) : Laid Z a0 "com/example/lintel/lintel/io/CsvReader" "com/example/lintel/lintel/io/CsvReader" "text" "[B") (ty := (.array .byte)) (by decide)
      have F_length := F393 (Or.inr (hw _ (List.mem_of_getElem? (i := 25) rfl)) : Laid Z a0 "com/example/lintel/lintel/io/CsvReader" "com/example/lintel/lintel/io/CsvReader" "length" "I") (ty := .int) (by decide)
      have F_starts := F393 (Or.inl (hw _ (List.mem_of_getElem? (i := 16) rfl)) : Laid Z a0 "com/example/lintel/lintel/io/CsvReader" "com/example/lintel/lintel/io/CsvReader" "starts" "[I") (ty := (.array .int)) (by decide)
      have F_ends := F393 (Or.inl (hw _ (List.mem_of_getElem? (i := 18) rfl)) : Laid Z a0 "com/example/lintel/lintel/io/CsvReader" "com/example/lintel/lintel/io/CsvReader" "ends" "[I") (ty := (.array .int)) (by decide)
      have F_doubledQuotes := F393 (Or.inl (hw _ (List.mem_of_getElem? (i := 21) rfl)) : Laid Z a0 "com/example/lintel/lintel/io/CsvReader" "com/example/lintel/lintel/io/CsvReader" "doubledQuotes" "[Z") (ty := (.array .boolean)) (by decide)
      have F_at := F393 (Or.inl (hw _ (List.mem_of_getElem? (i := 44) rfl)) : Laid Z a0 "com/example/lintel/lintel/io/CsvReader" "com/example/lintel/lintel/io/CsvReader" "at" "I") (ty := .int) (by decide)
      have F_row := F393 (Or.inl (hw _ (List.mem_of_getElem? (i := 51) rfl)) : Laid Z a0 "com/example/lintel/lintel/io/CsvReader" "com/example/lintel/lintel/io/CsvReader" "row" "I") (ty := .int) (by decide)
      have F_bytesOr := F393 (Or.inl (hw _ (List.mem_of_getElem? (i := 63) rfl)) : Laid Z a0 "com/example/lintel/lintel/io/CsvReader" "com/example/lintel/lintel/io/CsvReader" "bytesOr" "I") (ty := .int) (by decide)
      have F_size := F393 (Or.inl (hw _ (List.mem_of_getElem? (i := 53) rfl)) : Laid Z a0 "com/example/lintel/lintel/io/CsvReader" "com/example/lintel/lintel/io/CsvReader" "size" "I") (ty := .int) (by decide)
      refine g_dup P393 d0_356 rfl ?_
      refine g_aload P393 d0_357 rfl rfl ?_
      refine g_special P393 a [(.ref tx)] (rest := [(.ref a)]) (W := 1) d0_359 rfl (hw _ (List.mem_of_getElem? (i := 9) rfl)) (hw _ (List.mem_of_getElem? (i := 10) rfl)) (hw _ (List.mem_of_getElem? (i := 8) rfl)) (hw _ (List.mem_of_getElem? (i := 11) rfl)) (by decide) (rm_init l Z a0 hw _ n0 a tx bm kt kb te vb ga A393 F_text F_length F_starts F_ends F_doubledQuotes F_at F_row F_bytesOr F_size AT lt hB txl txa (S_BOM.ext X) (AM.ext X) lb gm bma) pd_9 rfl rfl rfl rfl (by decide) (by decide) (by decide) (by decide) fun v394 T394 h394 P394 q394 => ?_
      obtain ⟨rfl, sa, ea, da, ks, ke, kd, F, A, D1, B⟩ := q394
      have AX := AX.blw B xpl
      refine g_astore P394 d0_362 rfl #[.val (.int p1), .val (.int p2), .val (.int p3), .val (.int p4), .val (.int (2 : Int32)), .val (.int (1 : Int32)), .val (.int (0 : Int32)), .val (.ref tx), .val (.ref xp), .val (.int (iN f1)), .val (.ref a), .unset] rfl ?_
      refine g_aload P394 d0_364 rfl rfl ?_
      refine g_virtual P394 a [] (rest := []) (W := 0) d0_366 (hw _ (List.mem_of_getElem? (i := 45) rfl)) (hw _ (List.mem_of_getElem? (i := 46) rfl)) (hw _ (List.mem_of_getElem? (i := 48) rfl)) (hw _ (List.mem_of_getElem? (i := 47) rfl)) (hw _ (List.mem_of_getElem? (i := 8) rfl)) (hw _ (List.mem_of_getElem? (i := 49) rfl)) (by decide) F.exa (rm_next l Z a0 hw _ n0 a a tx sa ea da kt ks ke kd te _ _ _ _ _ _ [(s0, e0, f0), (s1, e1, f1)] ga F A hB D1 (by decide) hR (by simp)) pd_10 rfl rfl rfl rfl (by decide) (by decide) (by decide) (by decide) fun v395 T395 h395 P395 q395 => ?_
      obtain ⟨rfl, av, rv, bo, st, en, dq, F, A, hG, B⟩ := q395
      have AX := AX.blw B xpl
      refine g_ifYes P395 d0_369 (by decide) 374 (by decide) (by decide) ?_
      refine g_aload P395 d0_374 rfl rfl ?_
      refine g_virtual P395 a [] (rest := []) (W := 0) d0_376 (hw _ (List.mem_of_getElem? (i := 68) rfl)) (hw _ (List.mem_of_getElem? (i := 69) rfl)) (hw _ (List.mem_of_getElem? (i := 71) rfl)) (hw _ (List.mem_of_getElem? (i := 70) rfl)) (hw _ (List.mem_of_getElem? (i := 8) rfl)) (hw _ (List.mem_of_getElem? (i := 72) rfl)) (by decide) F.exa (rm_size l Z a0 hw _ n0 a a tx sa ea da kt ks ke kd te [] [] [] _ _ _ _ F) pd_2 rfl rfl rfl rfl (by decide) (by decide) (by decide) (by decide) fun v396 T396 h396 P396 q396 => ?_
      obtain ⟨rfl, rfl⟩ := q396
      refine g_iload P396 d0_379 rfl ?_
      refine g_icmpYes P396 d0_381 (teq rfl).1 386 (by decide) (by decide) ?_
      refine g_aload P396 d0_386 rfl rfl ?_
      refine g_iconst (v := (0 : Int32)) P396 d0_388 (by rfl) ?_
      refine g_virtual P396 a [(.int (0 : Int32))] (rest := []) (W := 0) d0_389 (hw _ (List.mem_of_getElem? (i := 73) rfl)) (hw _ (List.mem_of_getElem? (i := 74) rfl)) (hw _ (List.mem_of_getElem? (i := 76) rfl)) (hw _ (List.mem_of_getElem? (i := 75) rfl)) (hw _ (List.mem_of_getElem? (i := 8) rfl)) (hw _ (List.mem_of_getElem? (i := 77) rfl)) (by decide) F.exa (rm_length l Z a0 hw _ n0 a a tx sa ea da kt ks ke kd te _ _ _ _ _ _ _ (0 : Int32) (iN s0) (iN e0) 0 F A (by decide) (hG 0 _ rfl).1 (hG 0 _ rfl).2) pd_0 rfl rfl rfl rfl (by decide) (by decide) (by decide) (by decide) fun v397 T397 h397 P397 q397 => ?_
      obtain ⟨rfl, rfl⟩ := q397
      refine g_aload P397 d0_392 rfl rfl ?_
      refine g_iconst (v := (0 : Int32)) P397 d0_394 (by rfl) ?_
      refine g_iaload (i := 0) (v := (.int (iN e0 - iN s0))) P397 d0_395 AX (by decide) rfl ?_
      refine g_icmpNo P397 d0_396 (teq rfl).2 ?_
      refine g_iconst (v := (1 : Int32)) P397 d0_399 (by rfl) ?_
      refine g_goto P397 d0_400 404 (by decide) (by decide) ?_
      refine g_istore P397 d0_404 #[.val (.int p1), .val (.int p2), .val (.int p3), .val (.int p4), .val (.int (2 : Int32)), .val (.int (1 : Int32)), .val (.int (0 : Int32)), .val (.ref tx), .val (.ref xp), .val (.int (iN f1)), .val (.ref a), .val (.int (1 : Int32))] rfl ?_
      refine g_iload P397 d0_406 rfl ?_
      refine g_iconst (v := (1 : Int32)) P397 d0_408 (by rfl) ?_
      refine g_icmpNo P397 d0_409 (by decide) ?_
      refine g_iload P397 d0_412 rfl ?_
      refine g_ifNo P397 d0_414 (by decide) ?_
      refine g_aload P397 d0_417 rfl rfl ?_
      refine g_iconst (v := (1 : Int32)) P397 d0_419 (by rfl) ?_
      refine g_virtual P397 a [(.int (1 : Int32))] (rest := []) (W := 0) d0_420 (hw _ (List.mem_of_getElem? (i := 73) rfl)) (hw _ (List.mem_of_getElem? (i := 74) rfl)) (hw _ (List.mem_of_getElem? (i := 76) rfl)) (hw _ (List.mem_of_getElem? (i := 75) rfl)) (hw _ (List.mem_of_getElem? (i := 8) rfl)) (hw _ (List.mem_of_getElem? (i := 77) rfl)) (by decide) F.exa (rm_length l Z a0 hw _ n0 a a tx sa ea da kt ks ke kd te _ _ _ _ _ _ _ (1 : Int32) (iN s1) (iN e1) 1 F A (by decide) (hG 1 _ rfl).1 (hG 1 _ rfl).2) pd_0 rfl rfl rfl rfl (by decide) (by decide) (by decide) (by decide) fun v398 T398 h398 P398 q398 => ?_
      obtain ⟨rfl, rfl⟩ := q398
      refine g_aload P398 d0_423 rfl rfl ?_
      refine g_iconst (v := (1 : Int32)) P398 d0_425 (by rfl) ?_
      refine g_iaload (i := 1) (v := (.int (iN e1 - iN s1))) P398 d0_426 AX (by decide) rfl ?_
      refine g_icmpNo P398 d0_427 (teq rfl).2 ?_
      refine g_iconst (v := (1 : Int32)) P398 d0_430 (by rfl) ?_
      refine g_goto P398 d0_431 435 (by decide) (by decide) ?_
      refine g_istore P398 d0_435 #[.val (.int p1), .val (.int p2), .val (.int p3), .val (.int p4), .val (.int (2 : Int32)), .val (.int (1 : Int32)), .val (.int (0 : Int32)), .val (.ref tx), .val (.ref xp), .val (.int (iN f1)), .val (.ref a), .val (.int (1 : Int32))] rfl ?_
      refine g_iload P398 d0_437 rfl ?_
      refine g_iconst (v := (2 : Int32)) P398 d0_439 (by rfl) ?_
      refine g_icmpYes P398 d0_440 (by decide) 468 (by decide) (by decide) ?_
      refine g_iload P398 d0_468 rfl ?_
      exact g_retZ P398 d0_470 (by decide) (by decide) (by decide) rfl
    · refine g_static P350 [(.ref tx), (.int (0 : Int32)), (.ref xp), (.int (0 : Int32)), (.int p1), (.int p2), (.int (2 : Int32)), (.int (1 : Int32))] (rest := []) (W := 0) d0_245 (hw _ (List.mem_of_getElem? (i := 2) rfl)) (hw _ (List.mem_of_getElem? (i := 3) rfl)) (hw _ (List.mem_of_getElem? (i := 4) rfl)) (hw _ (List.mem_of_getElem? (i := 5) rfl)) (by decide) (rm_field_mid1 l Z a0 hw _ n0 tx xp kt kx t _ (0) 0 (0 : Int32) p1 p2 (2 : Int32) AT lt hB hZ (by omega) AX (by decide) (dT rfl) ge gx xt tx_ (by decide)) pd_8 rfl rfl rfl rfl (by decide) (by decide) (by decide) (by decide) fun v399 T399 h399 P399 q399 => ?_
      obtain ⟨t0, s0, e0, f0, rfl, AT, lt, hB, AX, hF0, hf0, hlow, hZ, K⟩ := q399
      have X := ext_below X (Below.refl.keep K (in2 gt gxx)) (Nat.le_refl _)
      have o0 := hF0.le
      refine g_istore P399 d0_248 #[.val (.int p1), .val (.int p2), .val (.int p3), .val (.int p4), .val (.int (2 : Int32)), .val (.int (2 : Int32)), .val (.int (1 : Int32)), .val (.ref tx), .val (.ref xp), .val (.int (iN f0)), .unset, .unset] rfl ?_
      refine g_iload P399 d0_250 rfl ?_
      refine g_iconst (v := (1 : Int32)) P399 d0_252 (by rfl) ?_
      refine g_icmpNo P399 d0_253 (by decide) ?_
      refine g_aload P399 d0_256 rfl rfl ?_
      refine g_iload P399 d0_258 rfl ?_
      refine g_bipush (v := (44 : Int32)) P399 d0_260 (by rfl) ?_
      refine g_bastoreB (i := f0) (w := 44) P399 d0_262 AT (ix_iN (by omega)) (by simp only [List.length_map, List.length_set]; omega) ge (by decide) fun T400 h400 P400 W400 AT => ?_
      rw [map_set'] at AT
      have X := ext_wr X W400 gt
      have AX := AX.other W400 xt
      obtain ⟨c0, ht_c0⟩ : ∃ q, q = t0.set f0 44 := ⟨_, rfl⟩
      rw [← ht_c0] at AT
      have hF0 := hF0.congr (fun i hi => (by rw [ht_c0, List.getElem?_set_ne (by omega)] : c0[i]? = t0[i]?))
      have g_c0 : c0[f0]? = some 44 := by rw [ht_c0, List.getElem?_set_self (by omega)]
      have lt : c0.length = 32 := by rw [ht_c0, List.length_set]; exact lt
      have hB : AllB c0 := by rw [ht_c0]; exact hB.set (by decide)
      have hZ : Zs c0 (f0 + 1) 32 := by rw [ht_c0]; exact (hZ.sub (by omega) (Nat.le_refl _)).set (by omega)
      refine g_aload P400 d0_263 rfl rfl ?_
      refine g_iload P400 d0_265 rfl ?_
      refine g_iconst (v := (1 : Int32)) P400 d0_267 (by rfl) ?_
      refine g_iadd (v := (iN (f0 + 1))) P400 d0_268 (iN_add _ 1) ?_
      refine g_aload P400 d0_269 rfl rfl ?_
      refine g_iconst (v := (1 : Int32)) P400 d0_271 (by rfl) ?_
      refine g_iloadN P400 d0_272 rfl ?_
      refine g_iloadN P400 d0_273 rfl ?_
      refine g_iload P400 d0_274 rfl ?_
      refine g_iload P400 d0_276 rfl ?_
      refine g_static P400 [(.ref tx), (.int (iN (f0 + 1))), (.ref xp), (.int (1 : Int32)), (.int p1), (.int p3), (.int (2 : Int32)), (.int (1 : Int32))] (rest := []) (W := 0) d0_278 (hw _ (List.mem_of_getElem? (i := 2) rfl)) (hw _ (List.mem_of_getElem? (i := 3) rfl)) (hw _ (List.mem_of_getElem? (i := 4) rfl)) (hw _ (List.mem_of_getElem? (i := 5) rfl)) (by decide) (rm_field_end l Z a0 hw _ n0 tx xp kt kx c0 _ (f0 + 1) 1 (1 : Int32) p1 p3 (2 : Int32) AT lt hB hZ (by omega) AX (by decide) (dT rfl) ge gx xt tx_ (by decide)) pd_8 rfl rfl rfl rfl (by decide) (by decide) (by decide) (by decide) fun v401 T401 h401 P401 q401 => ?_
      obtain ⟨t1, s1, e1, rfl, AT, lt, hB, AX, hF1, hlow, K⟩ := q401
      have X := ext_below X (Below.refl.keep K (in2 gt gxx)) (Nat.le_refl _)
      have hF0 := hF0.congr (fun i hi => hlow i (by omega))
      have g_c0 : t1[f0]? = some 44 := (hlow f0 (by omega)).trans g_c0
      have o1 := hF1.le
      refine g_istore P401 d0_281 #[.val (.int p1), .val (.int p2), .val (.int p3), .val (.int p4), .val (.int (2 : Int32)), .val (.int (2 : Int32)), .val (.int (1 : Int32)), .val (.ref tx), .val (.ref xp), .val (.int (iN 32)), .unset, .unset] rfl ?_
      refine g_iload P401 d0_283 rfl ?_
      refine g_iconst (v := (2 : Int32)) P401 d0_285 (by rfl) ?_
      refine g_icmpYes P401 d0_286 (by decide) 316 (by decide) (by decide) ?_
      refine g_iload P401 d0_316 rfl ?_
      refine g_ifYes P401 d0_318 (by decide) 331 (by decide) (by decide) ?_
      refine g_iload P401 d0_331 rfl ?_
      refine g_iconst (v := (1 : Int32)) P401 d0_333 (by rfl) ?_
      refine g_icmpYes P401 d0_334 (by decide) 353 (by decide) (by decide) ?_
      have hE : EndAt t1 32 := Or.inl rfl
      have hR : Rec t1 0 [(s0, e0, f0), (s1, e1, 32)] := ⟨hF0, g_c0, ⟨hF1, (by omega : @LE.le Nat _ 32 32), hE⟩⟩
      refine g_new P401 d0_353 (hw _ (List.mem_of_getElem? (i := 6) rfl)) (hw _ (List.mem_of_getElem? (i := 7) rfl)) (hw _ (List.mem_of_getElem? (i := 8) rfl)) (by decide) (by decide) fun T402 h402 a P402 e402 E402 A402 F402 => ?_
      have lt1 := AT.lt
      have lx1 := AX.lt
      have X := ext_trans X E402
      have AT := AT.ext E402
      have AX := AX.ext E402
      have txl : tx < a := (by omega : @LT.lt Nat _ tx a)
      have txa : tx ≠ a := nN (by omega)
      have xpl : @LT.lt Nat _ xp a := by omega
      have ga : n0 ≤ a := by omega
      have bma : bm ≠ a := nN (by have := AM.lt; omega)
      have gza : h0.size ≤ a := by omega
      have F_text := F402 (Or.inr (hw _ (List.mem_of_getElem? (i := 23) rfl)) : Laid Z a0 "com/example/lintel/lintel/io/CsvReader" "com/example/lintel/lintel/io/CsvReader" "text" "[B") (ty := (.array .byte)) (by decide)
      have F_length := F402 (Or.inr (hw _ (List.mem_of_getElem? (i := 25) rfl)) : Laid Z a0 "com/example/lintel/lintel/io/CsvReader" "com/example/lintel/lintel/io/CsvReader" "length" "I") (ty := .int) (by decide)
      have F_starts := F402 (Or.inl (hw _ (List.mem_of_getElem? (i := 16) rfl)) : Laid Z a0 "com/example/lintel/lintel/io/CsvReader" "com/example/lintel/lintel/io/CsvReader" "starts" "[I") (ty := (.array .int)) (by decide)
      have F_ends := F402 (Or.inl (hw _ (List.mem_of_getElem? (i := 18) rfl)) : Laid Z a0 "com/example/lintel/lintel/io/CsvReader" "com/example/lintel/lintel/io/CsvReader" "ends" "[I") (ty := (.array .int)) (by decide)
      have F_doubledQuotes := F402 (Or.inl (hw _ (List.mem_of_getElem? (i := 21) rfl)) : Laid Z a0 "com/example/lintel/lintel/io/CsvReader" "com/example/lintel/lintel/io/CsvReader" "doubledQuotes" "[Z") (ty := (.array .boolean)) (by decide)
      have F_at := F402 (Or.inl (hw _ (List.mem_of_getElem? (i := 44) rfl)) : Laid Z a0 "com/example/lintel/lintel/io/CsvReader" "com/example/lintel/lintel/io/CsvReader" "at" "I") (ty := .int) (by decide)
      have F_row := F402 (Or.inl (hw _ (List.mem_of_getElem? (i := 51) rfl)) : Laid Z a0 "com/example/lintel/lintel/io/CsvReader" "com/example/lintel/lintel/io/CsvReader" "row" "I") (ty := .int) (by decide)
      have F_bytesOr := F402 (Or.inl (hw _ (List.mem_of_getElem? (i := 63) rfl)) : Laid Z a0 "com/example/lintel/lintel/io/CsvReader" "com/example/lintel/lintel/io/CsvReader" "bytesOr" "I") (ty := .int) (by decide)
      have F_size := F402 (Or.inl (hw _ (List.mem_of_getElem? (i := 53) rfl)) : Laid Z a0 "com/example/lintel/lintel/io/CsvReader" "com/example/lintel/lintel/io/CsvReader" "size" "I") (ty := .int) (by decide)
      refine g_dup P402 d0_356 rfl ?_
      refine g_aload P402 d0_357 rfl rfl ?_
      refine g_special P402 a [(.ref tx)] (rest := [(.ref a)]) (W := 1) d0_359 rfl (hw _ (List.mem_of_getElem? (i := 9) rfl)) (hw _ (List.mem_of_getElem? (i := 10) rfl)) (hw _ (List.mem_of_getElem? (i := 8) rfl)) (hw _ (List.mem_of_getElem? (i := 11) rfl)) (by decide) (rm_init l Z a0 hw _ n0 a tx bm kt kb t1 vb ga A402 F_text F_length F_starts F_ends F_doubledQuotes F_at F_row F_bytesOr F_size AT lt hB txl txa (S_BOM.ext X) (AM.ext X) lb gm bma) pd_9 rfl rfl rfl rfl (by decide) (by decide) (by decide) (by decide) fun v403 T403 h403 P403 q403 => ?_
      obtain ⟨rfl, sa, ea, da, ks, ke, kd, F, A, D1, B⟩ := q403
      have AX := AX.blw B xpl
      refine g_astore P403 d0_362 rfl #[.val (.int p1), .val (.int p2), .val (.int p3), .val (.int p4), .val (.int (2 : Int32)), .val (.int (2 : Int32)), .val (.int (1 : Int32)), .val (.ref tx), .val (.ref xp), .val (.int (iN 32)), .val (.ref a), .unset] rfl ?_
      refine g_aload P403 d0_364 rfl rfl ?_
      refine g_virtual P403 a [] (rest := []) (W := 0) d0_366 (hw _ (List.mem_of_getElem? (i := 45) rfl)) (hw _ (List.mem_of_getElem? (i := 46) rfl)) (hw _ (List.mem_of_getElem? (i := 48) rfl)) (hw _ (List.mem_of_getElem? (i := 47) rfl)) (hw _ (List.mem_of_getElem? (i := 8) rfl)) (hw _ (List.mem_of_getElem? (i := 49) rfl)) (by decide) F.exa (rm_next l Z a0 hw _ n0 a a tx sa ea da kt ks ke kd t1 _ _ _ _ _ _ [(s0, e0, f0), (s1, e1, 32)] ga F A hB D1 (by decide) hR (by simp)) pd_10 rfl rfl rfl rfl (by decide) (by decide) (by decide) (by decide) fun v404 T404 h404 P404 q404 => ?_
      obtain ⟨rfl, av, rv, bo, st, en, dq, F, A, hG, B⟩ := q404
      have AX := AX.blw B xpl
      refine g_ifYes P404 d0_369 (by decide) 374 (by decide) (by decide) ?_
      refine g_aload P404 d0_374 rfl rfl ?_
      refine g_virtual P404 a [] (rest := []) (W := 0) d0_376 (hw _ (List.mem_of_getElem? (i := 68) rfl)) (hw _ (List.mem_of_getElem? (i := 69) rfl)) (hw _ (List.mem_of_getElem? (i := 71) rfl)) (hw _ (List.mem_of_getElem? (i := 70) rfl)) (hw _ (List.mem_of_getElem? (i := 8) rfl)) (hw _ (List.mem_of_getElem? (i := 72) rfl)) (by decide) F.exa (rm_size l Z a0 hw _ n0 a a tx sa ea da kt ks ke kd t1 [] [] [] _ _ _ _ F) pd_2 rfl rfl rfl rfl (by decide) (by decide) (by decide) (by decide) fun v405 T405 h405 P405 q405 => ?_
      obtain ⟨rfl, rfl⟩ := q405
      refine g_iload P405 d0_379 rfl ?_
      refine g_icmpYes P405 d0_381 (teq rfl).1 386 (by decide) (by decide) ?_
      refine g_aload P405 d0_386 rfl rfl ?_
      refine g_iconst (v := (0 : Int32)) P405 d0_388 (by rfl) ?_
      refine g_virtual P405 a [(.int (0 : Int32))] (rest := []) (W := 0) d0_389 (hw _ (List.mem_of_getElem? (i := 73) rfl)) (hw _ (List.mem_of_getElem? (i := 74) rfl)) (hw _ (List.mem_of_getElem? (i := 76) rfl)) (hw _ (List.mem_of_getElem? (i := 75) rfl)) (hw _ (List.mem_of_getElem? (i := 8) rfl)) (hw _ (List.mem_of_getElem? (i := 77) rfl)) (by decide) F.exa (rm_length l Z a0 hw _ n0 a a tx sa ea da kt ks ke kd t1 _ _ _ _ _ _ _ (0 : Int32) (iN s0) (iN e0) 0 F A (by decide) (hG 0 _ rfl).1 (hG 0 _ rfl).2) pd_0 rfl rfl rfl rfl (by decide) (by decide) (by decide) (by decide) fun v406 T406 h406 P406 q406 => ?_
      obtain ⟨rfl, rfl⟩ := q406
      refine g_aload P406 d0_392 rfl rfl ?_
      refine g_iconst (v := (0 : Int32)) P406 d0_394 (by rfl) ?_
      refine g_iaload (i := 0) (v := (.int (iN e0 - iN s0))) P406 d0_395 AX (by decide) rfl ?_
      refine g_icmpNo P406 d0_396 (teq rfl).2 ?_
      refine g_iconst (v := (1 : Int32)) P406 d0_399 (by rfl) ?_
      refine g_goto P406 d0_400 404 (by decide) (by decide) ?_
      refine g_istore P406 d0_404 #[.val (.int p1), .val (.int p2), .val (.int p3), .val (.int p4), .val (.int (2 : Int32)), .val (.int (2 : Int32)), .val (.int (1 : Int32)), .val (.ref tx), .val (.ref xp), .val (.int (iN 32)), .val (.ref a), .val (.int (1 : Int32))] rfl ?_
      refine g_iload P406 d0_406 rfl ?_
      refine g_iconst (v := (1 : Int32)) P406 d0_408 (by rfl) ?_
      refine g_icmpNo P406 d0_409 (by decide) ?_
      refine g_iload P406 d0_412 rfl ?_
      refine g_ifNo P406 d0_414 (by decide) ?_
      refine g_aload P406 d0_417 rfl rfl ?_
      refine g_iconst (v := (1 : Int32)) P406 d0_419 (by rfl) ?_
      refine g_virtual P406 a [(.int (1 : Int32))] (rest := []) (W := 0) d0_420 (hw _ (List.mem_of_getElem? (i := 73) rfl)) (hw _ (List.mem_of_getElem? (i := 74) rfl)) (hw _ (List.mem_of_getElem? (i := 76) rfl)) (hw _ (List.mem_of_getElem? (i := 75) rfl)) (hw _ (List.mem_of_getElem? (i := 8) rfl)) (hw _ (List.mem_of_getElem? (i := 77) rfl)) (by decide) F.exa (rm_length l Z a0 hw _ n0 a a tx sa ea da kt ks ke kd t1 _ _ _ _ _ _ _ (1 : Int32) (iN s1) (iN e1) 1 F A (by decide) (hG 1 _ rfl).1 (hG 1 _ rfl).2) pd_0 rfl rfl rfl rfl (by decide) (by decide) (by decide) (by decide) fun v407 T407 h407 P407 q407 => ?_
      obtain ⟨rfl, rfl⟩ := q407
      refine g_aload P407 d0_423 rfl rfl ?_
      refine g_iconst (v := (1 : Int32)) P407 d0_425 (by rfl) ?_
      refine g_iaload (i := 1) (v := (.int (iN e1 - iN s1))) P407 d0_426 AX (by decide) rfl ?_
      refine g_icmpNo P407 d0_427 (teq rfl).2 ?_
      refine g_iconst (v := (1 : Int32)) P407 d0_430 (by rfl) ?_
      refine g_goto P407 d0_431 435 (by decide) (by decide) ?_
      refine g_istore P407 d0_435 #[.val (.int p1), .val (.int p2), .val (.int p3), .val (.int p4), .val (.int (2 : Int32)), .val (.int (2 : Int32)), .val (.int (1 : Int32)), .val (.ref tx), .val (.ref xp), .val (.int (iN 32)), .val (.ref a), .val (.int (1 : Int32))] rfl ?_
      refine g_iload P407 d0_437 rfl ?_
      refine g_iconst (v := (2 : Int32)) P407 d0_439 (by rfl) ?_
      refine g_icmpYes P407 d0_440 (by decide) 468 (by decide) (by decide) ?_
      refine g_iload P407 d0_468 rfl ?_
      exact g_retZ P407 d0_470 (by decide) (by decide) (by decide) rfl
    · refine g_static P350 [(.ref tx), (.int (0 : Int32)), (.ref xp), (.int (0 : Int32)), (.int p1), (.int p2), (.int (2 : Int32)), (.int (1 : Int32))] (rest := []) (W := 0) d0_245 (hw _ (List.mem_of_getElem? (i := 2) rfl)) (hw _ (List.mem_of_getElem? (i := 3) rfl)) (hw _ (List.mem_of_getElem? (i := 4) rfl)) (hw _ (List.mem_of_getElem? (i := 5) rfl)) (by decide) (rm_field_mid1 l Z a0 hw _ n0 tx xp kt kx t _ (0) 0 (0 : Int32) p1 p2 (2 : Int32) AT lt hB hZ (by omega) AX (by decide) (dT rfl) ge gx xt tx_ (by decide)) pd_8 rfl rfl rfl rfl (by decide) (by decide) (by decide) (by decide) fun v408 T408 h408 P408 q408 => ?_
      obtain ⟨t0, s0, e0, f0, rfl, AT, lt, hB, AX, hF0, hf0, hlow, hZ, K⟩ := q408
      have X := ext_below X (Below.refl.keep K (in2 gt gxx)) (Nat.le_refl _)
      have o0 := hF0.le
      refine g_istore P408 d0_248 #[.val (.int p1), .val (.int p2), .val (.int p3), .val (.int p4), .val (.int (2 : Int32)), .val (.int (3 : Int32)), .val (.int (1 : Int32)), .val (.ref tx), .val (.ref xp), .val (.int (iN f0)), .unset, .unset] rfl ?_
      refine g_iload P408 d0_250 rfl ?_
      refine g_iconst (v := (1 : Int32)) P408 d0_252 (by rfl) ?_
      refine g_icmpNo P408 d0_253 (by decide) ?_
      refine g_aload P408 d0_256 rfl rfl ?_
      refine g_iload P408 d0_258 rfl ?_
      refine g_bipush (v := (44 : Int32)) P408 d0_260 (by rfl) ?_
      refine g_bastoreB (i := f0) (w := 44) P408 d0_262 AT (ix_iN (by omega)) (by simp only [List.length_map, List.length_set]; omega) ge (by decide) fun T409 h409 P409 W409 AT => ?_
      rw [map_set'] at AT
      have X := ext_wr X W409 gt
      have AX := AX.other W409 xt
      obtain ⟨c0, ht_c0⟩ : ∃ q, q = t0.set f0 44 := ⟨_, rfl⟩
      rw [← ht_c0] at AT
      have hF0 := hF0.congr (fun i hi => (by rw [ht_c0, List.getElem?_set_ne (by omega)] : c0[i]? = t0[i]?))
      have g_c0 : c0[f0]? = some 44 := by rw [ht_c0, List.getElem?_set_self (by omega)]
      have lt : c0.length = 32 := by rw [ht_c0, List.length_set]; exact lt
      have hB : AllB c0 := by rw [ht_c0]; exact hB.set (by decide)
      have hZ : Zs c0 (f0 + 1) 32 := by rw [ht_c0]; exact (hZ.sub (by omega) (Nat.le_refl _)).set (by omega)
      refine g_aload P409 d0_263 rfl rfl ?_
      refine g_iload P409 d0_265 rfl ?_
      refine g_iconst (v := (1 : Int32)) P409 d0_267 (by rfl) ?_
      refine g_iadd (v := (iN (f0 + 1))) P409 d0_268 (iN_add _ 1) ?_
      refine g_aload P409 d0_269 rfl rfl ?_
      refine g_iconst (v := (1 : Int32)) P409 d0_271 (by rfl) ?_
      refine g_iloadN P409 d0_272 rfl ?_
      refine g_iloadN P409 d0_273 rfl ?_
      refine g_iload P409 d0_274 rfl ?_
      refine g_iload P409 d0_276 rfl ?_
      refine g_static P409 [(.ref tx), (.int (iN (f0 + 1))), (.ref xp), (.int (1 : Int32)), (.int p1), (.int p3), (.int (2 : Int32)), (.int (1 : Int32))] (rest := []) (W := 0) d0_278 (hw _ (List.mem_of_getElem? (i := 2) rfl)) (hw _ (List.mem_of_getElem? (i := 3) rfl)) (hw _ (List.mem_of_getElem? (i := 4) rfl)) (hw _ (List.mem_of_getElem? (i := 5) rfl)) (by decide) (rm_field_end l Z a0 hw _ n0 tx xp kt kx c0 _ (f0 + 1) 1 (1 : Int32) p1 p3 (2 : Int32) AT lt hB hZ (by omega) AX (by decide) (dT rfl) ge gx xt tx_ (by decide)) pd_8 rfl rfl rfl rfl (by decide) (by decide) (by decide) (by decide) fun v410 T410 h410 P410 q410 => ?_
      obtain ⟨t1, s1, e1, rfl, AT, lt, hB, AX, hF1, hlow, K⟩ := q410
      have X := ext_below X (Below.refl.keep K (in2 gt gxx)) (Nat.le_refl _)
      have hF0 := hF0.congr (fun i hi => hlow i (by omega))
      have g_c0 : t1[f0]? = some 44 := (hlow f0 (by omega)).trans g_c0
      have o1 := hF1.le
      refine g_istore P410 d0_281 #[.val (.int p1), .val (.int p2), .val (.int p3), .val (.int p4), .val (.int (2 : Int32)), .val (.int (3 : Int32)), .val (.int (1 : Int32)), .val (.ref tx), .val (.ref xp), .val (.int (iN 32)), .unset, .unset] rfl ?_
      refine g_iload P410 d0_283 rfl ?_
      refine g_iconst (v := (2 : Int32)) P410 d0_285 (by rfl) ?_
      refine g_icmpYes P410 d0_286 (by decide) 316 (by decide) (by decide) ?_
      refine g_iload P410 d0_316 rfl ?_
      refine g_ifYes P410 d0_318 (by decide) 331 (by decide) (by decide) ?_
      refine g_iload P410 d0_331 rfl ?_
      refine g_iconst (v := (1 : Int32)) P410 d0_333 (by rfl) ?_
      refine g_icmpYes P410 d0_334 (by decide) 353 (by decide) (by decide) ?_
      have hE : EndAt t1 32 := Or.inl rfl
      have hR : Rec t1 0 [(s0, e0, f0), (s1, e1, 32)] := ⟨hF0, g_c0, ⟨hF1, (by omega : @LE.le Nat _ 32 32), hE⟩⟩
      refine g_new P410 d0_353 (hw _ (List.mem_of_getElem? (i := 6) rfl)) (hw _ (List.mem_of_getElem? (i := 7) rfl)) (hw _ (List.mem_of_getElem? (i := 8) rfl)) (by decide) (by decide) fun T411 h411 a P411 e411 E411 A411 F411 => ?_
      have lt1 := AT.lt
      have lx1 := AX.lt
      have X := ext_trans X E411
      have AT := AT.ext E411
      have AX := AX.ext E411
      have txl : tx < a := (by omega : @LT.lt Nat _ tx a)
      have txa : tx ≠ a := nN (by omega)
      have xpl : @LT.lt Nat _ xp a := by omega
      have ga : n0 ≤ a := by omega
      have bma : bm ≠ a := nN (by have := AM.lt; omega)
      have gza : h0.size ≤ a := by omega
      have F_text := F411 (Or.inr (hw _ (List.mem_of_getElem? (i := 23) rfl)) : Laid Z a0 "com/example/lintel/lintel/io/CsvReader" "com/example/lintel/lintel/io/CsvReader" "text" "[B") (ty := (.array .byte)) (by decide)
      have F_length := F411 (Or.inr (hw _ (List.mem_of_getElem? (i := 25) rfl)) : Laid Z a0 "com/example/lintel/lintel/io/CsvReader" "com/example/lintel/lintel/io/CsvReader" "length" "I") (ty := .int) (by decide)
      have F_starts := F411 (Or.inl (hw _ (List.mem_of_getElem? (i := 16) rfl)) : Laid Z a0 "com/example/lintel/lintel/io/CsvReader" "com/example/lintel/lintel/io/CsvReader" "starts" "[I") (ty := (.array .int)) (by decide)
      have F_ends := F411 (Or.inl (hw _ (List.mem_of_getElem? (i := 18) rfl)) : Laid Z a0 "com/example/lintel/lintel/io/CsvReader" "com/example/lintel/lintel/io/CsvReader" "ends" "[I") (ty := (.array .int)) (by decide)
      have F_doubledQuotes := F411 (Or.inl (hw _ (List.mem_of_getElem? (i := 21) rfl)) : Laid Z a0 "com/example/lintel/lintel/io/CsvReader" "com/example/lintel/lintel/io/CsvReader" "doubledQuotes" "[Z") (ty := (.array .boolean)) (by decide)
      have F_at := F411 (Or.inl (hw _ (List.mem_of_getElem? (i := 44) rfl)) : Laid Z a0 "com/example/lintel/lintel/io/CsvReader" "com/example/lintel/lintel/io/CsvReader" "at" "I") (ty := .int) (by decide)
      have F_row := F411 (Or.inl (hw _ (List.mem_of_getElem? (i := 51) rfl)) : Laid Z a0 "com/example/lintel/lintel/io/CsvReader" "com/example/lintel/lintel/io/CsvReader" "row" "I") (ty := .int) (by decide)
      have F_bytesOr := F411 (Or.inl (hw _ (List.mem_of_getElem? (i := 63) rfl)) : Laid Z a0 "com/example/lintel/lintel/io/CsvReader" "com/example/lintel/lintel/io/CsvReader" "bytesOr" "I") (ty := .int) (by decide)
      have F_size := F411 (Or.inl (hw _ (List.mem_of_getElem? (i := 53) rfl)) : Laid Z a0 "com/example/lintel/lintel/io/CsvReader" "com/example/lintel/lintel/io/CsvReader" "size" "I") (ty := .int) (by decide)
      refine g_dup P411 d0_356 rfl ?_
      refine g_aload P411 d0_357 rfl rfl ?_
      refine g_special P411 a [(.ref tx)] (rest := [(.ref a)]) (W := 1) d0_359 rfl (hw _ (List.mem_of_getElem? (i := 9) rfl)) (hw _ (List.mem_of_getElem? (i := 10) rfl)) (hw _ (List.mem_of_getElem? (i := 8) rfl)) (hw _ (List.mem_of_getElem? (i := 11) rfl)) (by decide) (rm_init l Z a0 hw _ n0 a tx bm kt kb t1 vb ga A411 F_text F_length F_starts F_ends F_doubledQuotes F_at F_row F_bytesOr F_size AT lt hB txl txa (S_BOM.ext X) (AM.ext X) lb gm bma) pd_9 rfl rfl rfl rfl (by decide) (by decide) (by decide) (by decide) fun v412 T412 h412 P412 q412 => ?_
      obtain ⟨rfl, sa, ea, da, ks, ke, kd, F, A, D1, B⟩ := q412
      have AX := AX.blw B xpl
      refine g_astore P412 d0_362 rfl #[.val (.int p1), .val (.int p2), .val (.int p3), .val (.int p4), .val (.int (2 : Int32)), .val (.int (3 : Int32)), .val (.int (1 : Int32)), .val (.ref tx), .val (.ref xp), .val (.int (iN 32)), .val (.ref a), .unset] rfl ?_
      refine g_aload P412 d0_364 rfl rfl ?_
      refine g_virtual P412 a [] (rest := []) (W := 0) d0_366 (hw _ (List.mem_of_getElem? (i := 45) rfl)) (hw _ (List.mem_of_getElem? (i := 46) rfl)) (hw _ (List.mem_of_getElem? (i := 48) rfl)) (hw _ (List.mem_of_getElem? (i := 47) rfl)) (hw _ (List.mem_of_getElem? (i := 8) rfl)) (hw _ (List.mem_of_getElem? (i := 49) rfl)) (by decide) F.exa (rm_next l Z a0 hw _ n0 a a tx sa ea da kt ks ke kd t1 _ _ _ _ _ _ [(s0, e0, f0), (s1, e1, 32)] ga F A hB D1 (by decide) hR (by simp)) pd_10 rfl rfl rfl rfl (by decide) (by decide) (by decide) (by decide) fun v413 T413 h413 P413 q413 => ?_
      obtain ⟨rfl, av, rv, bo, st, en, dq, F, A, hG, B⟩ := q413
      have AX := AX.blw B xpl
      refine g_ifYes P413 d0_369 (by decide) 374 (by decide) (by decide) ?_
      refine g_aload P413 d0_374 rfl rfl ?_
      refine g_virtual P413 a [] (rest := []) (W := 0) d0_376 (hw _ (List.mem_of_getElem? (i := 68) rfl)) (hw _ (List.mem_of_getElem? (i := 69) rfl)) (hw _ (List.mem_of_getElem? (i := 71) rfl)) (hw _ (List.mem_of_getElem? (i := 70) rfl)) (hw _ (List.mem_of_getElem? (i := 8) rfl)) (hw _ (List.mem_of_getElem? (i := 72) rfl)) (by decide) F.exa (rm_size l Z a0 hw _ n0 a a tx sa ea da kt ks ke kd t1 [] [] [] _ _ _ _ F) pd_2 rfl rfl rfl rfl (by decide) (by decide) (by decide) (by decide) fun v414 T414 h414 P414 q414 => ?_
      obtain ⟨rfl, rfl⟩ := q414
      refine g_iload P414 d0_379 rfl ?_
      refine g_icmpYes P414 d0_381 (teq rfl).1 386 (by decide) (by decide) ?_
      refine g_aload P414 d0_386 rfl rfl ?_
      refine g_iconst (v := (0 : Int32)) P414 d0_388 (by rfl) ?_
      refine g_virtual P414 a [(.int (0 : Int32))] (rest := []) (W := 0) d0_389 (hw _ (List.mem_of_getElem? (i := 73) rfl)) (hw _ (List.mem_of_getElem? (i := 74) rfl)) (hw _ (List.mem_of_getElem? (i := 76) rfl)) (hw _ (List.mem_of_getElem? (i := 75) rfl)) (hw _ (List.mem_of_getElem? (i := 8) rfl)) (hw _ (List.mem_of_getElem? (i := 77) rfl)) (by decide) F.exa (rm_length l Z a0 hw _ n0 a a tx sa ea da kt ks ke kd t1 _ _ _ _ _ _ _ (0 : Int32) (iN s0) (iN e0) 0 F A (by decide) (hG 0 _ rfl).1 (hG 0 _ rfl).2) pd_0 rfl rfl rfl rfl (by decide) (by decide) (by decide) (by decide) fun v415 T415 h415 P415 q415 => ?_
      obtain ⟨rfl, rfl⟩ := q415
      refine g_aload P415 d0_392 rfl rfl ?_
      refine g_iconst (v := (0 : Int32)) P415 d0_394 (by rfl) ?_
      refine g_iaload (i := 0) (v := (.int (iN e0 - iN s0))) P415 d0_395 AX (by decide) rfl ?_
      refine g_icmpNo P415 d0_396 (teq rfl).2 ?_
      refine g_iconst (v := (1 : Int32)) P415 d0_399 (by rfl) ?_
      refine g_goto P415 d0_400 404 (by decide) (by decide) ?_
      refine g_istore P415 d0_404 #[.val (.int p1), .val (.int p2), .val (.int p3), .val (.int p4), .val (.int (2 : Int32)), .val (.int (3 : Int32)), .val (.int (1 : Int32)), .val (.ref tx), .val (.ref xp), .val (.int (iN 32)), .val (.ref a), .val (.int (1 : Int32))] rfl ?_
      refine g_iload P415 d0_406 rfl ?_
      refine g_iconst (v := (1 : Int32)) P415 d0_408 (by rfl) ?_
      refine g_icmpNo P415 d0_409 (by decide) ?_
      refine g_iload P415 d0_412 rfl ?_
      refine g_ifNo P415 d0_414 (by decide) ?_
      refine g_aload P415 d0_417 rfl rfl ?_
      refine g_iconst (v := (1 : Int32)) P415 d0_419 (by rfl) ?_
      refine g_virtual P415 a [(.int (1 : Int32))] (rest := []) (W := 0) d0_420 (hw _ (List.mem_of_getElem? (i := 73) rfl)) (hw _ (List.mem_of_getElem? (i := 74) rfl)) (hw _ (List.mem_of_getElem? (i := 76) rfl)) (hw _ (List.mem_of_getElem? (i := 75) rfl)) (hw _ (List.mem_of_getElem? (i := 8) rfl)) (hw _ (List.mem_of_getElem? (i := 77) rfl)) (by decide) F.exa (rm_length l Z a0 hw _ n0 a a tx sa ea da kt ks ke kd t1 _ _ _ _ _ _ _ (1 : Int32) (iN s1) (iN e1) 1 F A (by decide) (hG 1 _ rfl).1 (hG 1 _ rfl).2) pd_0 rfl rfl rfl rfl (by decide) (by decide) (by decide) (by decide) fun v416 T416 h416 P416 q416 => ?_
      obtain ⟨rfl, rfl⟩ := q416
      refine g_aload P416 d0_423 rfl rfl ?_
      refine g_iconst (v := (1 : Int32)) P416 d0_425 (by rfl) ?_
      refine g_iaload (i := 1) (v := (.int (iN e1 - iN s1))) P416 d0_426 AX (by decide) rfl ?_
      refine g_icmpNo P416 d0_427 (teq rfl).2 ?_
      refine g_iconst (v := (1 : Int32)) P416 d0_430 (by rfl) ?_
      refine g_goto P416 d0_431 435 (by decide) (by decide) ?_
      refine g_istore P416 d0_435 #[.val (.int p1), .val (.int p2), .val (.int p3), .val (.int p4), .val (.int (2 : Int32)), .val (.int (3 : Int32)), .val (.int (1 : Int32)), .val (.ref tx), .val (.ref xp), .val (.int (iN 32)), .val (.ref a), .val (.int (1 : Int32))] rfl ?_
      refine g_iload P416 d0_437 rfl ?_
      refine g_iconst (v := (2 : Int32)) P416 d0_439 (by rfl) ?_
      refine g_icmpYes P416 d0_440 (by decide) 468 (by decide) (by decide) ?_
      refine g_iload P416 d0_468 rfl ?_
      exact g_retZ P416 d0_470 (by decide) (by decide) (by decide) rfl
    · refine g_static P350 [(.ref tx), (.int (0 : Int32)), (.ref xp), (.int (0 : Int32)), (.int p1), (.int p2), (.int (3 : Int32)), (.int (0 : Int32))] (rest := []) (W := 0) d0_245 (hw _ (List.mem_of_getElem? (i := 2) rfl)) (hw _ (List.mem_of_getElem? (i := 3) rfl)) (hw _ (List.mem_of_getElem? (i := 4) rfl)) (hw _ (List.mem_of_getElem? (i := 5) rfl)) (by decide) (rm_field_mid0 l Z a0 hw _ n0 tx xp kt kx t _ (0) 0 (0 : Int32) p1 p2 (3 : Int32) AT lt hB hZ (by omega) AX (by decide) (dT rfl) ge gx xt tx_) pd_8 rfl rfl rfl rfl (by decide) (by decide) (by decide) (by decide) fun v417 T417 h417 P417 q417 => ?_
      obtain ⟨t0, s0, e0, f0, rfl, AT, lt, hB, AX, hF0, hf0, hlow, hZ, K⟩ := q417
      have X := ext_below X (Below.refl.keep K (in2 gt gxx)) (Nat.le_refl _)
      have o0 := hF0.le
      refine g_istore P417 d0_248 #[.val (.int p1), .val (.int p2), .val (.int p3), .val (.int p4), .val (.int (3 : Int32)), .val (.int (0 : Int32)), .val (.int (0 : Int32)), .val (.ref tx), .val (.ref xp), .val (.int (iN f0)), .unset, .unset] rfl ?_
      refine g_iload P417 d0_250 rfl ?_
      refine g_iconst (v := (1 : Int32)) P417 d0_252 (by rfl) ?_
      refine g_icmpNo P417 d0_253 (by decide) ?_
      refine g_aload P417 d0_256 rfl rfl ?_
      refine g_iload P417 d0_258 rfl ?_
      refine g_bipush (v := (44 : Int32)) P417 d0_260 (by rfl) ?_
      refine g_bastoreB (i := f0) (w := 44) P417 d0_262 AT (ix_iN (by omega)) (by simp only [List.length_map, List.length_set]; omega) ge (by decide) fun T418 h418 P418 W418 AT => ?_
      rw [map_set'] at AT
      have X := ext_wr X W418 gt
      have AX := AX.other W418 xt
      obtain ⟨c0, ht_c0⟩ : ∃ q, q = t0.set f0 44 := ⟨_, rfl⟩
      rw [← ht_c0] at AT
      have hF0 := hF0.congr (fun i hi => (by rw [ht_c0, List.getElem?_set_ne (by omega)] : c0[i]? = t0[i]?))
      have g_c0 : c0[f0]? = some 44 := by rw [ht_c0, List.getElem?_set_self (by omega)]
      have lt : c0.length = 32 := by rw [ht_c0, List.length_set]; exact lt
      have hB : AllB c0 := by rw [ht_c0]; exact hB.set (by decide)
      have hZ : Zs c0 (f0 + 1) 32 := by rw [ht_c0]; exact (hZ.sub (by omega) (Nat.le_refl _)).set (by omega)
      refine g_aload P418 d0_263 rfl rfl ?_
      refine g_iload P418 d0_265 rfl ?_
      refine g_iconst (v := (1 : Int32)) P418 d0_267 (by rfl) ?_
      refine g_iadd (v := (iN (f0 + 1))) P418 d0_268 (iN_add _ 1) ?_
      refine g_aload P418 d0_269 rfl rfl ?_
      refine g_iconst (v := (1 : Int32)) P418 d0_271 (by rfl) ?_
      refine g_iloadN P418 d0_272 rfl ?_
      refine g_iloadN P418 d0_273 rfl ?_
      refine g_iload P418 d0_274 rfl ?_
      refine g_iload P418 d0_276 rfl ?_
      refine g_static P418 [(.ref tx), (.int (iN (f0 + 1))), (.ref xp), (.int (1 : Int32)), (.int p1), (.int p3), (.int (3 : Int32)), (.int (0 : Int32))] (rest := []) (W := 0) d0_278 (hw _ (List.mem_of_getElem? (i := 2) rfl)) (hw _ (List.mem_of_getElem? (i := 3) rfl)) (hw _ (List.mem_of_getElem? (i := 4) rfl)) (hw _ (List.mem_of_getElem? (i := 5) rfl)) (by decide) (rm_field_mid0 l Z a0 hw _ n0 tx xp kt kx c0 _ (f0 + 1) 1 (1 : Int32) p1 p3 (3 : Int32) AT lt hB hZ (by omega) AX (by decide) (dT rfl) ge gx xt tx_) pd_8 rfl rfl rfl rfl (by decide) (by decide) (by decide) (by decide) fun v419 T419 h419 P419 q419 => ?_
      obtain ⟨t1, s1, e1, f1, rfl, AT, lt, hB, AX, hF1, hf1, hlow, hZ, K⟩ := q419
      have X := ext_below X (Below.refl.keep K (in2 gt gxx)) (Nat.le_refl _)
      have hF0 := hF0.congr (fun i hi => hlow i (by omega))
      have g_c0 : t1[f0]? = some 44 := (hlow f0 (by omega)).trans g_c0
      have o1 := hF1.le
      refine g_istore P419 d0_281 #[.val (.int p1), .val (.int p2), .val (.int p3), .val (.int p4), .val (.int (3 : Int32)), .val (.int (0 : Int32)), .val (.int (0 : Int32)), .val (.ref tx), .val (.ref xp), .val (.int (iN f1)), .unset, .unset] rfl ?_
      refine g_iload P419 d0_283 rfl ?_
      refine g_iconst (v := (2 : Int32)) P419 d0_285 (by rfl) ?_
      refine g_icmpNo P419 d0_286 (by decide) ?_
      refine g_aload P419 d0_289 rfl rfl ?_
      refine g_iload P419 d0_291 rfl ?_
      refine g_bipush (v := (44 : Int32)) P419 d0_293 (by rfl) ?_
      refine g_bastoreB (i := f1) (w := 44) P419 d0_295 AT (ix_iN (by omega)) (by simp only [List.length_map, List.length_set]; omega) ge (by decide) fun T420 h420 P420 W420 AT => ?_
      rw [map_set'] at AT
      have X := ext_wr X W420 gt
      have AX := AX.other W420 xt
      obtain ⟨c1, ht_c1⟩ : ∃ q, q = t1.set f1 44 := ⟨_, rfl⟩
      rw [← ht_c1] at AT
      have hF0 := hF0.congr (fun i hi => (by rw [ht_c1, List.getElem?_set_ne (by omega)] : c1[i]? = t1[i]?))
      have hF1 := hF1.congr (fun i hi => (by rw [ht_c1, List.getElem?_set_ne (by omega)] : c1[i]? = t1[i]?))
      have g_c0 : c1[f0]? = some 44 := by rw [ht_c1, List.getElem?_set_ne (by omega)]; exact g_c0
      have g_c1 : c1[f1]? = some 44 := by rw [ht_c1, List.getElem?_set_self (by omega)]
      have lt : c1.length = 32 := by rw [ht_c1, List.length_set]; exact lt
      have hB : AllB c1 := by rw [ht_c1]; exact hB.set (by decide)
      have hZ : Zs c1 (f1 + 1) 32 := by rw [ht_c1]; exact (hZ.sub (by omega) (Nat.le_refl _)).set (by omega)
      refine g_aload P420 d0_296 rfl rfl ?_
      refine g_iload P420 d0_298 rfl ?_
      refine g_iconst (v := (1 : Int32)) P420 d0_300 (by rfl) ?_
      refine g_iadd (v := (iN (f1 + 1))) P420 d0_301 (iN_add _ 1) ?_
      refine g_aload P420 d0_302 rfl rfl ?_
      refine g_iconst (v := (2 : Int32)) P420 d0_304 (by rfl) ?_
      refine g_iloadN P420 d0_305 rfl ?_
      refine g_iloadN P420 d0_306 rfl ?_
      refine g_iload P420 d0_307 rfl ?_
      refine g_iload P420 d0_309 rfl ?_
      refine g_static P420 [(.ref tx), (.int (iN (f1 + 1))), (.ref xp), (.int (2 : Int32)), (.int p1), (.int p4), (.int (3 : Int32)), (.int (0 : Int32))] (rest := []) (W := 0) d0_311 (hw _ (List.mem_of_getElem? (i := 2) rfl)) (hw _ (List.mem_of_getElem? (i := 3) rfl)) (hw _ (List.mem_of_getElem? (i := 4) rfl)) (hw _ (List.mem_of_getElem? (i := 5) rfl)) (by decide) (rm_field_mid0 l Z a0 hw _ n0 tx xp kt kx c1 _ (f1 + 1) 2 (2 : Int32) p1 p4 (3 : Int32) AT lt hB hZ (by omega) AX (by decide) (dT rfl) ge gx xt tx_) pd_8 rfl rfl rfl rfl (by decide) (by decide) (by decide) (by decide) fun v421 T421 h421 P421 q421 => ?_
      obtain ⟨t2, s2, e2, f2, rfl, AT, lt, hB, AX, hF2, hf2, hlow, hZ, K⟩ := q421
      have X := ext_below X (Below.refl.keep K (in2 gt gxx)) (Nat.le_refl _)
      have hF0 := hF0.congr (fun i hi => hlow i (by omega))
      have hF1 := hF1.congr (fun i hi => hlow i (by omega))
      have g_c0 : t2[f0]? = some 44 := (hlow f0 (by omega)).trans g_c0
      have g_c1 : t2[f1]? = some 44 := (hlow f1 (by omega)).trans g_c1
      have o2 := hF2.le
      refine g_istore P421 d0_314 #[.val (.int p1), .val (.int p2), .val (.int p3), .val (.int p4), .val (.int (3 : Int32)), .val (.int (0 : Int32)), .val (.int (0 : Int32)), .val (.ref tx), .val (.ref xp), .val (.int (iN f2)), .unset, .unset] rfl ?_
      refine g_iload P421 d0_316 rfl ?_
      refine g_ifNo P421 d0_318 (by decide) ?_
      refine g_aload P421 d0_321 rfl rfl ?_
      refine g_iload P421 d0_323 rfl ?_
      refine g_bipush (v := (10 : Int32)) P421 d0_325 (by rfl) ?_
      refine g_bastoreB (i := f2) (w := 10) P421 d0_327 AT (ix_iN (by omega)) (by simp only [List.length_map, List.length_set]; omega) ge (by decide) fun T422 h422 P422 W422 AT => ?_
      rw [map_set'] at AT
      have X := ext_wr X W422 gt
      have AX := AX.other W422 xt
      obtain ⟨te, ht_te⟩ : ∃ q, q = t2.set f2 10 := ⟨_, rfl⟩
      rw [← ht_te] at AT
      have hF0 := hF0.congr (fun i hi => (by rw [ht_te, List.getElem?_set_ne (by omega)] : te[i]? = t2[i]?))
      have hF1 := hF1.congr (fun i hi => (by rw [ht_te, List.getElem?_set_ne (by omega)] : te[i]? = t2[i]?))
      have hF2 := hF2.congr (fun i hi => (by rw [ht_te, List.getElem?_set_ne (by omega)] : te[i]? = t2[i]?))
      have g_c0 : te[f0]? = some 44 := by rw [ht_te, List.getElem?_set_ne (by omega)]; exact g_c0
      have g_c1 : te[f1]? = some 44 := by rw [ht_te, List.getElem?_set_ne (by omega)]; exact g_c1
      have g_te : te[f2]? = some 10 := by rw [ht_te, List.getElem?_set_self (by omega)]
      have lt : te.length = 32 := by rw [ht_te, List.length_set]; exact lt
      have hB : AllB te := by rw [ht_te]; exact hB.set (by decide)
      refine g_goto P422 d0_328 353 (by decide) (by decide) ?_
      have hE : EndAt te f2 := Or.inr (Or.inl g_te)
      have hR : Rec te 0 [(s0, e0, f0), (s1, e1, f1), (s2, e2, f2)] := ⟨hF0, g_c0, ⟨hF1, g_c1, ⟨hF2, (by omega : @LE.le Nat _ f2 32), hE⟩⟩⟩
      refine g_new P422 d0_353 (hw _ (List.mem_of_getElem? (i := 6) rfl)) (hw _ (List.mem_of_getElem? (i := 7) rfl)) (hw _ (List.mem_of_getElem? (i := 8) rfl)) (by decide) (by decide) fun T423 h423 a P423 e423 E423 A423 F423 => ?_
      have lt1 := AT.lt
      have lx1 := AX.lt
      have X := ext_trans X E423
      have AT := AT.ext E423
      have AX := AX.ext E423
      have txl : tx < a := (by omega : @LT.lt Nat _ tx a)
      have txa : tx ≠ a := nN (by omega)
      have xpl : @LT.lt Nat _ xp a := by omega
      have ga : n0 ≤ a := by omega
      have bma : bm ≠ a := nN (by have := AM.lt; omega)
      have gza : h0.size ≤ a := by omega
      have F_text := F423 (Or.inr (hw _ (List.mem_of_getElem? (i := 23) rfl)) : Laid Z a0 "com/example/lintel/lintel/io/CsvReader" "com/example/lintel/lintel/io/CsvReader" "text" "[B") (ty := (.array .byte)) (by decide)
      have F_length := F423 (Or.inr (hw _ (List.mem_of_getElem? (i := 25) rfl)) : Laid Z a0 "com/example/lintel/lintel/io/CsvReader" "com/example/lintel/lintel/io/CsvReader" "length" "I") (ty := .int) (by decide)
      have F_starts := F423 (Or.inl (hw _ (List.mem_of_getElem? (i := 16) rfl)) : Laid Z a0 "com/example/lintel/lintel/io/CsvReader" "com/example/lintel/lintel/io/CsvReader" "starts" "[I") (ty := (.array .int)) (by decide)
      have F_ends := F423 (Or.inl (hw _ (List.mem_of_getElem? (i := 18) rfl)) : Laid Z a0 "com/example/lintel/lintel/io/CsvReader" "com/example/lintel/lintel/io/CsvReader" "ends" "[I") (ty := (.array .int)) (by decide)
      have F_doubledQuotes := F423 (Or.inl (hw _ (List.mem_of_getElem? (i := 21) rfl)) : Laid Z a0 "com/example/lintel/lintel/io/CsvReader" "com/example/lintel/lintel/io/CsvReader" "doubledQuotes" "[Z") (ty := (.array .boolean)) (by decide)
      have F_at := F423 (Or.inl (hw _ (List.mem_of_getElem? (i := 44) rfl)) : Laid Z a0 "com/example/lintel/lintel/io/CsvReader" "com/example/lintel/lintel/io/CsvReader" "at" "I") (ty := .int) (by decide)
      have F_row := F423 (Or.inl (hw _ (List.mem_of_getElem? (i := 51) rfl)) : Laid Z a0 "com/example/lintel/lintel/io/CsvReader" "com/example/lintel/lintel/io/CsvReader" "row" "I") (ty := .int) (by decide)
      have F_bytesOr := F423 (Or.inl (hw _ (List.mem_of_getElem? (i := 63) rfl)) : Laid Z a0 "com/example/lintel/lintel/io/CsvReader" "com/example/lintel/lintel/io/CsvReader" "bytesOr" "I") (ty := .int) (by decide)
      have F_size := F423 (Or.inl (hw _ (List.mem_of_getElem? (i := 53) rfl)) : Laid Z a0 "com/example/lintel/lintel/io/CsvReader" "com/example/lintel/lintel/io/CsvReader" "size" "I") (ty := .int) (by decide)
      refine g_dup P423 d0_356 rfl ?_
      refine g_aload P423 d0_357 rfl rfl ?_
      refine g_special P423 a [(.ref tx)] (rest := [(.ref a)]) (W := 1) d0_359 rfl (hw _ (List.mem_of_getElem? (i := 9) rfl)) (hw _ (List.mem_of_getElem? (i := 10) rfl)) (hw _ (List.mem_of_getElem? (i := 8) rfl)) (hw _ (List.mem_of_getElem? (i := 11) rfl)) (by decide) (rm_init l Z a0 hw _ n0 a tx bm kt kb te vb ga A423 F_text F_length F_starts F_ends F_doubledQuotes F_at F_row F_bytesOr F_size AT lt hB txl txa (S_BOM.ext X) (AM.ext X) lb gm bma) pd_9 rfl rfl rfl rfl (by decide) (by decide) (by decide) (by decide) fun v424 T424 h424 P424 q424 => ?_
      obtain ⟨rfl, sa, ea, da, ks, ke, kd, F, A, D1, B⟩ := q424
      have AX := AX.blw B xpl
      refine g_astore P424 d0_362 rfl #[.val (.int p1), .val (.int p2), .val (.int p3), .val (.int p4), .val (.int (3 : Int32)), .val (.int (0 : Int32)), .val (.int (0 : Int32)), .val (.ref tx), .val (.ref xp), .val (.int (iN f2)), .val (.ref a), .unset] rfl ?_
      refine g_aload P424 d0_364 rfl rfl ?_
      refine g_virtual P424 a [] (rest := []) (W := 0) d0_366 (hw _ (List.mem_of_getElem? (i := 45) rfl)) (hw _ (List.mem_of_getElem? (i := 46) rfl)) (hw _ (List.mem_of_getElem? (i := 48) rfl)) (hw _ (List.mem_of_getElem? (i := 47) rfl)) (hw _ (List.mem_of_getElem? (i := 8) rfl)) (hw _ (List.mem_of_getElem? (i := 49) rfl)) (by decide) F.exa (rm_next l Z a0 hw _ n0 a a tx sa ea da kt ks ke kd te _ _ _ _ _ _ [(s0, e0, f0), (s1, e1, f1), (s2, e2, f2)] ga F A hB D1 (by decide) hR (by simp)) pd_10 rfl rfl rfl rfl (by decide) (by decide) (by decide) (by decide) fun v425 T425 h425 P425 q425 => ?_
      obtain ⟨rfl, av, rv, bo, st, en, dq, F, A, hG, B⟩ := q425
      have AX := AX.blw B xpl
      refine g_ifYes P425 d0_369 (by decide) 374 (by decide) (by decide) ?_
      refine g_aload P425 d0_374 rfl rfl ?_
      refine g_virtual P425 a [] (rest := []) (W := 0) d0_376 (hw _ (List.mem_of_getElem? (i := 68) rfl)) (hw _ (List.mem_of_getElem? (i := 69) rfl)) (hw _ (List.mem_of_getElem? (i := 71) rfl)) (hw _ (List.mem_of_getElem? (i := 70) rfl)) (hw _ (List.mem_of_getElem? (i := 8) rfl)) (hw _ (List.mem_of_getElem? (i := 72) rfl)) (by decide) F.exa (rm_size l Z a0 hw _ n0 a a tx sa ea da kt ks ke kd te [] [] [] _ _ _ _ F) pd_2 rfl rfl rfl rfl (by decide) (by decide) (by decide) (by decide) fun v426 T426 h426 P426 q426 => ?_
      obtain ⟨rfl, rfl⟩ := q426
      refine g_iload P426 d0_379 rfl ?_
      refine g_icmpYes P426 d0_381 (teq rfl).1 386 (by decide) (by decide) ?_
      refine g_aload P426 d0_386 rfl rfl ?_
      refine g_iconst (v := (0 : Int32)) P426 d0_388 (by rfl) ?_
      refine g_virtual P426 a [(.int (0 : Int32))] (rest := []) (W := 0) d0_389 (hw _ (List.mem_of_getElem? (i := 73) rfl)) (hw _ (List.mem_of_getElem? (i := 74) rfl)) (hw _ (List.mem_of_getElem? (i := 76) rfl)) (hw _ (List.mem_of_getElem? (i := 75) rfl)) (hw _ (List.mem_of_getElem? (i := 8) rfl)) (hw _ (List.mem_of_getElem? (i := 77) rfl)) (by decide) F.exa (rm_length l Z a0 hw _ n0 a a tx sa ea da kt ks ke kd te _ _ _ _ _ _ _ (0 : Int32) (iN s0) (iN e0) 0 F A (by decide) (hG 0 _ rfl).1 (hG 0 _ rfl).2) pd_0 rfl rfl rfl rfl (by decide) (by decide) (by decide) (by decide) fun v427 T427 h427 P427 q427 => ?_
      obtain ⟨rfl, rfl⟩ := q427
      refine g_aload P427 d0_392 rfl rfl ?_
      refine g_iconst (v := (0 : Int32)) P427 d0_394 (by rfl) ?_
      refine g_iaload (i := 0) (v := (.int (iN e0 - iN s0))) P427 d0_395 AX (by decide) rfl ?_
      refine g_icmpNo P427 d0_396 (teq rfl).2 ?_
      refine g_iconst (v := (1 : Int32)) P427 d0_399 (by rfl) ?_
      refine g_goto P427 d0_400 404 (by decide) (by decide) ?_
      refine g_istore P427 d0_404 #[.val (.int p1), .val (.int p2), .val (.int p3), .val (.int p4), .val (.int (3 : Int32)), .val (.int (0 : Int32)), .val (.int (0 : Int32)), .val (.ref tx), .val (.ref xp), .val (.int (iN f2)), .val (.ref a), .val (.int (1 : Int32))] rfl ?_
      refine g_iload P427 d0_406 rfl ?_
      refine g_iconst (v := (1 : Int32)) P427 d0_408 (by rfl) ?_
      refine g_icmpNo P427 d0_409 (by decide) ?_
      refine g_iload P427 d0_412 rfl ?_
      refine g_ifNo P427 d0_414 (by decide) ?_
      refine g_aload P427 d0_417 rfl rfl ?_
      refine g_iconst (v := (1 : Int32)) P427 d0_419 (by rfl) ?_
      refine g_virtual P427 a [(.int (1 : Int32))] (rest := []) (W := 0) d0_420 (hw _ (List.mem_of_getElem? (i := 73) rfl)) (hw _ (List.mem_of_getElem? (i := 74) rfl)) (hw _ (List.mem_of_getElem? (i := 76) rfl)) (hw _ (List.mem_of_getElem? (i := 75) rfl)) (hw _ (List.mem_of_getElem? (i := 8) rfl)) (hw _ (List.mem_of_getElem? (i := 77) rfl)) (by decide) F.exa (rm_length l Z a0 hw _ n0 a a tx sa ea da kt ks ke kd te _ _ _ _ _ _ _ (1 : Int32) (iN s1) (iN e1) 1 F A (by decide) (hG 1 _ rfl).1 (hG 1 _ rfl).2) pd_0 rfl rfl rfl rfl (by decide) (by decide) (by decide) (by decide) fun v428 T428 h428 P428 q428 => ?_
      obtain ⟨rfl, rfl⟩ := q428
      refine g_aload P428 d0_423 rfl rfl ?_
      refine g_iconst (v := (1 : Int32)) P428 d0_425 (by rfl) ?_
      refine g_iaload (i := 1) (v := (.int (iN e1 - iN s1))) P428 d0_426 AX (by decide) rfl ?_
      refine g_icmpNo P428 d0_427 (teq rfl).2 ?_
      refine g_iconst (v := (1 : Int32)) P428 d0_430 (by rfl) ?_
      refine g_goto P428 d0_431 435 (by decide) (by decide) ?_
      refine g_istore P428 d0_435 #[.val (.int p1), .val (.int p2), .val (.int p3), .val (.int p4), .val (.int (3 : Int32)), .val (.int (0 : Int32)), .val (.int (0 : Int32)), .val (.ref tx), .val (.ref xp), .val (.int (iN f2)), .val (.ref a), .val (.int (1 : Int32))] rfl ?_
      refine g_iload P428 d0_437 rfl ?_
      refine g_iconst (v := (2 : Int32)) P428 d0_439 (by rfl) ?_
      refine g_icmpNo P428 d0_440 (by decide) ?_
      refine g_iload P428 d0_443 rfl ?_
      refine g_ifNo P428 d0_445 (by decide) ?_
      refine g_aload P428 d0_448 rfl rfl ?_
      refine g_iconst (v := (2 : Int32)) P428 d0_450 (by rfl) ?_
      refine g_virtual P428 a [(.int (2 : Int32))] (rest := []) (W := 0) d0_451 (hw _ (List.mem_of_getElem? (i := 73) rfl)) (hw _ (List.mem_of_getElem? (i := 74) rfl)) (hw _ (List.mem_of_getElem? (i := 76) rfl)) (hw _ (List.mem_of_getElem? (i := 75) rfl)) (hw _ (List.mem_of_getElem? (i := 8) rfl)) (hw _ (List.mem_of_getElem? (i := 77) rfl)) (by decide) F.exa (rm_length l Z a0 hw _ n0 a a tx sa ea da kt ks ke kd te _ _ _ _ _ _ _ (2 : Int32) (iN s2) (iN e2) 2 F A (by decide) (hG 2 _ rfl).1 (hG 2 _ rfl).2) pd_0 rfl rfl rfl rfl (by decide) (by decide) (by decide) (by decide) fun v429 T429 h429 P429 q429 => ?_
      obtain ⟨rfl, rfl⟩ := q429
      refine g_aload P429 d0_454 rfl rfl ?_
      refine g_iconst (v := (2 : Int32)) P429 d0_456 (by rfl) ?_
      refine g_iaload (i := 2) (v := (.int (iN e2 - iN s2))) P429 d0_457 AX (by decide) rfl ?_
      refine g_icmpNo P429 d0_458 (teq rfl).2 ?_
      refine g_iconst (v := (1 : Int32)) P429 d0_461 (by rfl) ?_
      refine g_goto P429 d0_462 466 (by decide) (by decide) ?_
      refine g_istore P429 d0_466 #[.val (.int p1), .val (.int p2), .val (.int p3), .val (.int p4), .val (.int (3 : Int32)), .val (.int (0 : Int32)), .val (.int (0 : Int32)), .val (.ref tx), .val (.ref xp), .val (.int (iN f2)), .val (.ref a), .val (.int (1 : Int32))] rfl ?_
      refine g_iload P429 d0_468 rfl ?_
      exact g_retZ P429 d0_470 (by decide) (by decide) (by decide) rfl
    · refine g_static P350 [(.ref tx), (.int (0 : Int32)), (.ref xp), (.int (0 : Int32)), (.int p1), (.int p2), (.int (3 : Int32)), (.int (0 : Int32))] (rest := []) (W := 0) d0_245 (hw _ (List.mem_of_getElem? (i := 2) rfl)) (hw _ (List.mem_of_getElem? (i := 3) rfl)) (hw _ (List.mem_of_getElem? (i := 4) rfl)) (hw _ (List.mem_of_getElem? (i := 5) rfl)) (by decide) (rm_field_mid0 l Z a0 hw _ n0 tx xp kt kx t _ (0) 0 (0 : Int32) p1 p2 (3 : Int32) AT lt hB hZ (by omega) AX (by decide) (dT rfl) ge gx xt tx_) pd_8 rfl rfl rfl rfl (by decide) (by decide) (by decide) (by decide) fun v430 T430 h430 P430 q430 => ?_
      obtain ⟨t0, s0, e0, f0, rfl, AT, lt, hB, AX, hF0, hf0, hlow, hZ, K⟩ := q430
      have X := ext_below X (Below.refl.keep K (in2 gt gxx)) (Nat.le_refl _)
      have o0 := hF0.le
      refine g_istore P430 d0_248 #[.val (.int p1), .val (.int p2), .val (.int p3), .val (.int p4), .val (.int (3 : Int32)), .val (.int (1 : Int32)), .val (.int (0 : Int32)), .val (.ref tx), .val (.ref xp), .val (.int (iN f0)), .unset, .unset] rfl ?_
      refine g_iload P430 d0_250 rfl ?_
      refine g_iconst (v := (1 : Int32)) P430 d0_252 (by rfl) ?_
      refine g_icmpNo P430 d0_253 (by decide) ?_
      refine g_aload P430 d0_256 rfl rfl ?_
      refine g_iload P430 d0_258 rfl ?_
      refine g_bipush (v := (44 : Int32)) P430 d0_260 (by rfl) ?_
      refine g_bastoreB (i := f0) (w := 44) P430 d0_262 AT (ix_iN (by omega)) (by simp only [List.length_map, List.length_set]; omega) ge (by decide) fun T431 h431 P431 W431 AT => ?_
      rw [map_set'] at AT
      have X := ext_wr X W431 gt
      have AX := AX.other W431 xt
      obtain ⟨c0, ht_c0⟩ : ∃ q, q = t0.set f0 44 := ⟨_, rfl⟩
      rw [← ht_c0] at AT
      have hF0 := hF0.congr (fun i hi => (by rw [ht_c0, List.getElem?_set_ne (by omega)] : c0[i]? = t0[i]?))
      have g_c0 : c0[f0]? = some 44 := by rw [ht_c0, List.getElem?_set_self (by omega)]
      have lt : c0.length = 32 := by rw [ht_c0, List.length_set]; exact lt
      have hB : AllB c0 := by rw [ht_c0]; exact hB.set (by decide)
      have hZ : Zs c0 (f0 + 1) 32 := by rw [ht_c0]; exact (hZ.sub (by omega) (Nat.le_refl _)).set (by omega)
      refine g_aload P431 d0_263 rfl rfl ?_
      refine g_iload P431 d0_265 rfl ?_
      refine g_iconst (v := (1 : Int32)) P431 d0_267 (by rfl) ?_
      refine g_iadd (v := (iN (f0 + 1))) P431 d0_268 (iN_add _ 1) ?_
      refine g_aload P431 d0_269 rfl rfl ?_
      refine g_iconst (v := (1 : Int32)) P431 d0_271 (by rfl) ?_
      refine g_iloadN P431 d0_272 rfl ?_
      refine g_iloadN P431 d0_273 rfl ?_
      refine g_iload P431 d0_274 rfl ?_
      refine g_iload P431 d0_276 rfl ?_
      refine g_static P431 [(.ref tx), (.int (iN (f0 + 1))), (.ref xp), (.int (1 : Int32)), (.int p1), (.int p3), (.int (3 : Int32)), (.int (0 : Int32))] (rest := []) (W := 0) d0_278 (hw _ (List.mem_of_getElem? (i := 2) rfl)) (hw _ (List.mem_of_getElem? (i := 3) rfl)) (hw _ (List.mem_of_getElem? (i := 4) rfl)) (hw _ (List.mem_of_getElem? (i := 5) rfl)) (by decide) (rm_field_mid0 l Z a0 hw _ n0 tx xp kt kx c0 _ (f0 + 1) 1 (1 : Int32) p1 p3 (3 : Int32) AT lt hB hZ (by omega) AX (by decide) (dT rfl) ge gx xt tx_) pd_8 rfl rfl rfl rfl (by decide) (by decide) (by decide) (by decide) fun v432 T432 h432 P432 q432 => ?_
      obtain ⟨t1, s1, e1, f1, rfl, AT, lt, hB, AX, hF1, hf1, hlow, hZ, K⟩ := q432
      have X := ext_below X (Below.refl.keep K (in2 gt gxx)) (Nat.le_refl _)
      have hF0 := hF0.congr (fun i hi => hlow i (by omega))
      have g_c0 : t1[f0]? = some 44 := (hlow f0 (by omega)).trans g_c0
      have o1 := hF1.le
      refine g_istore P432 d0_281 #[.val (.int p1), .val (.int p2), .val (.int p3), .val (.int p4), .val (.int (3 : Int32)), .val (.int (1 : Int32)), .val (.int (0 : Int32)), .val (.ref tx), .val (.ref xp), .val (.int (iN f1)), .unset, .unset] rfl ?_
      refine g_iload P432 d0_283 rfl ?_
      refine g_iconst (v := (2 : Int32)) P432 d0_285 (by rfl) ?_
      refine g_icmpNo P432 d0_286 (by decide) ?_
      refine g_aload P432 d0_289 rfl rfl ?_
      refine g_iload P432 d0_291 rfl ?_
      refine g_bipush (v := (44 : Int32)) P432 d0_293 (by rfl) ?_
      refine g_bastoreB (i := f1) (w := 44) P432 d0_295 AT (ix_iN (by omega)) (by simp only [List.length_map, List.length_set]; omega) ge (by decide) fun T433 h433 P433 W433 AT => ?_
      rw [map_set'] at AT
      have X := ext_wr X W433 gt
      have AX := AX.other W433 xt
      obtain ⟨c1, ht_c1⟩ : ∃ q, q = t1.set f1 44 := ⟨_, rfl⟩
      rw [← ht_c1] at AT
      have hF0 := hF0.congr (fun i hi => (by rw [ht_c1, List.getElem?_set_ne (by omega)] : c1[i]? = t1[i]?))
      have hF1 := hF1.congr (fun i hi => (by rw [ht_c1, List.getElem?_set_ne (by omega)] : c1[i]? = t1[i]?))
      have g_c0 : c1[f0]? = some 44 := by rw [ht_c1, List.getElem?_set_ne (by omega)]; exact g_c0
      have g_c1 : c1[f1]? = some 44 := by rw [ht_c1, List.getElem?_set_self (by omega)]
      have lt : c1.length = 32 := by rw [ht_c1, List.length_set]; exact lt
      have hB : AllB c1 := by rw [ht_c1]; exact hB.set (by decide)
      have hZ : Zs c1 (f1 + 1) 32 := by rw [ht_c1]; exact (hZ.sub (by omega) (Nat.le_refl _)).set (by omega)
      refine g_aload P433 d0_296 rfl rfl ?_
      refine g_iload P433 d0_298 rfl ?_
      refine g_iconst (v := (1 : Int32)) P433 d0_300 (by rfl) ?_
      refine g_iadd (v := (iN (f1 + 1))) P433 d0_301 (iN_add _ 1) ?_
      refine g_aload P433 d0_302 rfl rfl ?_
      refine g_iconst (v := (2 : Int32)) P433 d0_304 (by rfl) ?_
      refine g_iloadN P433 d0_305 rfl ?_
      refine g_iloadN P433 d0_306 rfl ?_
      refine g_iload P433 d0_307 rfl ?_
      refine g_iload P433 d0_309 rfl ?_
      refine g_static P433 [(.ref tx), (.int (iN (f1 + 1))), (.ref xp), (.int (2 : Int32)), (.int p1), (.int p4), (.int (3 : Int32)), (.int (0 : Int32))] (rest := []) (W := 0) d0_311 (hw _ (List.mem_of_getElem? (i := 2) rfl)) (hw _ (List.mem_of_getElem? (i := 3) rfl)) (hw _ (List.mem_of_getElem? (i := 4) rfl)) (hw _ (List.mem_of_getElem? (i := 5) rfl)) (by decide) (rm_field_mid0 l Z a0 hw _ n0 tx xp kt kx c1 _ (f1 + 1) 2 (2 : Int32) p1 p4 (3 : Int32) AT lt hB hZ (by omega) AX (by decide) (dT rfl) ge gx xt tx_) pd_8 rfl rfl rfl rfl (by decide) (by decide) (by decide) (by decide) fun v434 T434 h434 P434 q434 => ?_
      obtain ⟨t2, s2, e2, f2, rfl, AT, lt, hB, AX, hF2, hf2, hlow, hZ, K⟩ := q434
      have X := ext_below X (Below.refl.keep K (in2 gt gxx)) (Nat.le_refl _)
      have hF0 := hF0.congr (fun i hi => hlow i (by omega))
      have hF1 := hF1.congr (fun i hi => hlow i (by omega))
      have g_c0 : t2[f0]? = some 44 := (hlow f0 (by omega)).trans g_c0
      have g_c1 : t2[f1]? = some 44 := (hlow f1 (by omega)).trans g_c1
      have o2 := hF2.le
      refine g_istore P434 d0_314 #[.val (.int p1), .val (.int p2), .val (.int p3), .val (.int p4), .val (.int (3 : Int32)), .val (.int (1 : Int32)), .val (.int (0 : Int32)), .val (.ref tx), .val (.ref xp), .val (.int (iN f2)), .unset, .unset] rfl ?_
      refine g_iload P434 d0_316 rfl ?_
      refine g_ifYes P434 d0_318 (by decide) 331 (by decide) (by decide) ?_
      refine g_iload P434 d0_331 rfl ?_
      refine g_iconst (v := (1 : Int32)) P434 d0_333 (by rfl) ?_
      refine g_icmpNo P434 d0_334 (by decide) ?_
      refine g_aload P434 d0_337 rfl rfl ?_
      refine g_iload P434 d0_339 rfl ?_
      refine g_bipush (v := (13 : Int32)) P434 d0_341 (by rfl) ?_
      refine g_bastoreB (i := f2) (w := 13) P434 d0_343 AT (ix_iN (by omega)) (by simp only [List.length_map, List.length_set]; omega) ge (by decide) fun T435 h435 P435 W435 AT => ?_
      rw [map_set'] at AT
      have X := ext_wr X W435 gt
      have AX := AX.other W435 xt
      obtain ⟨td, ht_td⟩ : ∃ q, q = t2.set f2 13 := ⟨_, rfl⟩
      rw [← ht_td] at AT
      have hF0 := hF0.congr (fun i hi => (by rw [ht_td, List.getElem?_set_ne (by omega)] : td[i]? = t2[i]?))
      have hF1 := hF1.congr (fun i hi => (by rw [ht_td, List.getElem?_set_ne (by omega)] : td[i]? = t2[i]?))
      have hF2 := hF2.congr (fun i hi => (by rw [ht_td, List.getElem?_set_ne (by omega)] : td[i]? = t2[i]?))
      have g_c0 : td[f0]? = some 44 := by rw [ht_td, List.getElem?_set_ne (by omega)]; exact g_c0
      have g_c1 : td[f1]? = some 44 := by rw [ht_td, List.getElem?_set_ne (by omega)]; exact g_c1
      have g_td : td[f2]? = some 13 := by rw [ht_td, List.getElem?_set_self (by omega)]
      have lt : td.length = 32 := by rw [ht_td, List.length_set]; exact lt
      have hB : AllB td := by rw [ht_td]; exact hB.set (by decide)
      refine g_aload P435 d0_344 rfl rfl ?_
      refine g_iload P435 d0_346 rfl ?_
      refine g_iconst (v := (1 : Int32)) P435 d0_348 (by rfl) ?_
      refine g_iadd (v := (iN (f2 + 1))) P435 d0_349 (iN_add _ 1) ?_
      refine g_bipush (v := (10 : Int32)) P435 d0_350 (by rfl) ?_
      refine g_bastoreB (i := (f2 + 1)) (w := 10) P435 d0_352 AT (ix_iN (by omega)) (by simp only [List.length_map, List.length_set]; omega) ge (by decide) fun T436 h436 P436 W436 AT => ?_
      rw [map_set'] at AT
      have X := ext_wr X W436 gt
      have AX := AX.other W436 xt
      obtain ⟨te, ht_te⟩ : ∃ q, q = td.set (f2 + 1) 10 := ⟨_, rfl⟩
      rw [← ht_te] at AT
      have hF0 := hF0.congr (fun i hi => (by rw [ht_te, List.getElem?_set_ne (by omega)] : te[i]? = td[i]?))
      have hF1 := hF1.congr (fun i hi => (by rw [ht_te, List.getElem?_set_ne (by omega)] : te[i]? = td[i]?))
      have hF2 := hF2.congr (fun i hi => (by rw [ht_te, List.getElem?_set_ne (by omega)] : te[i]? = td[i]?))
      have g_c0 : te[f0]? = some 44 := by rw [ht_te, List.getElem?_set_ne (by omega)]; exact g_c0
      have g_c1 : te[f1]? = some 44 := by rw [ht_te, List.getElem?_set_ne (by omega)]; exact g_c1
      have g_te : te[(f2 + 1)]? = some 10 := by rw [ht_te, List.getElem?_set_self (by omega)]
      have lt : te.length = 32 := by rw [ht_te, List.length_set]; exact lt
      have hB : AllB te := by rw [ht_te]; exact hB.set (by decide)
      have g_td : te[f2]? = some 13 := by rw [ht_te, List.getElem?_set_ne (by omega)]; exact g_td
      have hE : EndAt te f2 := Or.inr (Or.inr ⟨g_td, g_te⟩)
      have hR : Rec te 0 [(s0, e0, f0), (s1, e1, f1), (s2, e2, f2)] := ⟨hF0, g_c0, ⟨hF1, g_c1, ⟨hF2, (by omega : @LE.le Nat _ f2 32), hE⟩⟩⟩
      refine g_new P436 d0_353 (hw _ (List.mem_of_getElem? (i := 6) rfl)) (hw _ (List.mem_of_getElem? (i := 7) rfl)) (hw _ (List.mem_of_getElem? (i := 8) rfl)) (by decide) (by decide) fun T437 h437 a P437 e437 E437 A437 F437 => ?_
      have lt1 := AT.lt
      have lx1 := AX.lt
      have X := ext_trans X E437
      have AT := AT.ext E437
      have AX := AX.ext E437
      have txl : tx < a := (by omega : @LT.lt Nat _ tx a)
      have txa : tx ≠ a := nN (by omega)
      have xpl : @LT.lt Nat _ xp a := by omega
      have ga : n0 ≤ a := by omega
      have bma : bm ≠ a := nN (by have := AM.lt; omega)
      have gza : h0.size ≤ a := by omega
      have F_text := F437 (Or.inr (hw _ (List.mem_of_getElem? (i := 23) rfl)) : Laid Z a0 "com/example/lintel/lintel/io/CsvReader" "com/example/lintel/lintel/io/CsvReader" "text" "[B") (ty := (.array .byte)) (by decide)
      have F_length := F437 (Or.inr (hw _ (List.mem_of_getElem? (i := 25) rfl)) : Laid Z a0 "com/example/lintel/lintel/io/CsvReader" "com/example/lintel/lintel/io/CsvReader" "length" "I") (ty := .int) (by decide)
      have F_starts := F437 (Or.inl (hw _ (List.mem_of_getElem? (i := 16) rfl)) : Laid Z a0 "com/example/lintel/lintel/io/CsvReader" "com/example/lintel/lintel/io/CsvReader" "starts" "[I") (ty := (.array .int)) (by decide)
      have F_ends := F437 (Or.inl (hw _ (List.mem_of_getElem? (i := 18) rfl)) : Laid Z a0 "com/example/lintel/lintel/io/CsvReader" "com/example/lintel/lintel/io/CsvReader" "ends" "[I") (ty := (.array .int)) (by decide)
      have F_doubledQuotes := F437 (Or.inl (hw _ (List.mem_of_getElem? (i := 21) rfl)) : Laid Z a0 "com/example/lintel/lintel/io/CsvReader" "com/example/lintel/lintel/io/CsvReader" "doubledQuotes" "[Z") (ty := (.array .boolean)) (by decide)
      have F_at := F437 (Or.inl (hw _ (List.mem_of_getElem? (i := 44) rfl)) : Laid Z a0 "com/example/lintel/lintel/io/CsvReader" "com/example/lintel/lintel/io/CsvReader" "at" "I") (ty := .int) (by decide)
      have F_row := F437 (Or.inl (hw _ (List.mem_of_getElem? (i := 51) rfl)) : Laid Z a0 "com/example/lintel/lintel/io/CsvReader" "com/example/lintel/lintel/io/CsvReader" "row" "I") (ty := .int) (by decide)
      have F_bytesOr := F437 (Or.inl (hw _ (List.mem_of_getElem? (i := 63) rfl)) : Laid Z a0 "com/example/lintel/lintel/io/CsvReader" "com/example/lintel/lintel/io/CsvReader" "bytesOr" "I") (ty := .int) (by decide)
      have F_size := F437 (Or.inl (hw _ (List.mem_of_getElem? (i := 53) rfl)) : Laid Z a0 "com/example/lintel/lintel/io/CsvReader" "com/example/lintel/lintel/io/CsvReader" "size" "I") (ty := .int) (by decide)
      refine g_dup P437 d0_356 rfl ?_
      refine g_aload P437 d0_357 rfl rfl ?_
      refine g_special P437 a [(.ref tx)] (rest := [(.ref a)]) (W := 1) d0_359 rfl (hw _ (List.mem_of_getElem? (i := 9) rfl)) (hw _ (List.mem_of_getElem? (i := 10) rfl)) (hw _ (List.mem_of_getElem? (i := 8) rfl)) (hw _ (List.mem_of_getElem? (i := 11) rfl)) (by decide) (rm_init l Z a0 hw _ n0 a tx bm kt kb te vb ga A437 F_text F_length F_starts F_ends F_doubledQuotes F_at F_row F_bytesOr F_size AT lt hB txl txa (S_BOM.ext X) (AM.ext X) lb gm bma) pd_9 rfl rfl rfl rfl (by decide) (by decide) (by decide) (by decide) fun v438 T438 h438 P438 q438 => ?_
      obtain ⟨rfl, sa, ea, da, ks, ke, kd, F, A, D1, B⟩ := q438
      have AX := AX.blw B xpl
      refine g_astore P438 d0_362 rfl #[.val (.int p1), .val (.int p2), .val (.int p3), .val (.int p4), .val (.int (3 : Int32)), .val (.int (1 : Int32)), .val (.int (0 : Int32)), .val (.ref tx), .val (.ref xp), .val (.int (iN f2)), .val (.ref a), .unset] rfl ?_
      refine g_aload P438 d0_364 rfl rfl ?_
      refine g_virtual P438 a [] (rest := []) (W := 0) d0_366 (hw _ (List.mem_of_getElem? (i := 45) rfl)) (hw _ (List.mem_of_getElem? (i := 46) rfl)) (hw _ (List.mem_of_getElem? (i := 48) rfl)) (hw _ (List.mem_of_getElem? (i := 47) rfl)) (hw _ (List.mem_of_getElem? (i := 8) rfl)) (hw _ (List.mem_of_getElem? (i := 49) rfl)) (by decide) F.exa (rm_next l Z a0 hw _ n0 a a tx sa ea da kt ks ke kd te _ _ _ _ _ _ [(s0, e0, f0), (s1, e1, f1), (s2, e2, f2)] ga F A hB D1 (by decide) hR (by simp)) pd_10 rfl rfl rfl rfl (by decide) (by decide) (by decide) (by decide) fun v439 T439 h439 P439 q439 => ?_
      obtain ⟨rfl, av, rv, bo, st, en, dq, F, A, hG, B⟩ := q439
      have AX := AX.blw B xpl
      refine g_ifYes P439 d0_369 (by decide) 374 (by decide) (by decide) ?_
      refine g_aload P439 d0_374 rfl rfl ?_
      refine g_virtual P439 a [] (rest := []) (W := 0) d0_376 (hw _ (List.mem_of_getElem? (i := 68) rfl)) (hw _ (List.mem_of_getElem? (i := 69) rfl)) (hw _ (List.mem_of_getElem? (i := 71) rfl)) (hw _ (List.mem_of_getElem? (i := 70) rfl)) (hw _ (List.mem_of_getElem? (i := 8) rfl)) (hw _ (List.mem_of_getElem? (i := 72) rfl)) (by decide) F.exa (rm_size l Z a0 hw _ n0 a a tx sa ea da kt ks ke kd te [] [] [] _ _ _ _ F) pd_2 rfl rfl rfl rfl (by decide) (by decide) (by decide) (by decide) fun v440 T440 h440 P440 q440 => ?_
      obtain ⟨rfl, rfl⟩ := q440
      refine g_iload P440 d0_379 rfl ?_
      refine g_icmpYes P440 d0_381 (teq rfl).1 386 (by decide) (by decide) ?_
      refine g_aload P440 d0_386 rfl rfl ?_
      refine g_iconst (v := (0 : Int32)) P440 d0_388 (by rfl) ?_
      refine g_virtual P440 a [(.int (0 : Int32))] (rest := []) (W := 0) d0_389 (hw _ (List.mem_of_getElem? (i := 73) rfl)) (hw _ (List.mem_of_getElem? (i := 74) rfl)) (hw _ (List.mem_of_getElem? (i := 76) rfl)) (hw _ (List.mem_of_getElem? (i := 75) rfl)) (hw _ (List.mem_of_getElem? (i := 8) rfl)) (hw _ (List.mem_of_getElem? (i := 77) rfl)) (by decide) F.exa (rm_length l Z a0 hw _ n0 a a tx sa ea da kt ks ke kd te _ _ _ _ _ _ _ (0 : Int32) (iN s0) (iN e0) 0 F A (by decide) (hG 0 _ rfl).1 (hG 0 _ rfl).2) pd_0 rfl rfl rfl rfl (by decide) (by decide) (by decide) (by decide) fun v441 T441 h441 P441 q441 => ?_
      obtain ⟨rfl, rfl⟩ := q441
      refine g_aload P441 d0_392 rfl rfl ?_
      refine g_iconst (v := (0 : Int32)) P441 d0_394 (by rfl) ?_
      refine g_iaload (i := 0) (v := (.int (iN e0 - iN s0))) P441 d0_395 AX (by decide) rfl ?_
      refine g_icmpNo P441 d0_396 (teq rfl).2 ?_
      refine g_iconst (v := (1 : Int32)) P441 d0_399 (by rfl) ?_
      refine g_goto P441 d0_400 404 (by decide) (by decide) ?_
      refine g_istore P441 d0_404 #[.val (.int p1), .val (.int p2), .val (.int p3), .val (.int p4), .val (.int (3 : Int32)), .val (.int (1 : Int32)), .val (.int (0 : Int32)), .val (.ref tx), .val (.ref xp), .val (.int (iN f2)), .val (.ref a), .val (.int (1 : Int32))] rfl ?_
      refine g_iload P441 d0_406 rfl ?_
      refine g_iconst (v := (1 : Int32)) P441 d0_408 (by rfl) ?_
      refine g_icmpNo P441 d0_409 (by decide) ?_
      refine g_iload P441 d0_412 rfl ?_
      refine g_ifNo P441 d0_414 (by decide) ?_
      refine g_aload P441 d0_417 rfl rfl ?_
      refine g_iconst (v := (1 : Int32)) P441 d0_419 (by rfl) ?_
      refine g_virtual P441 a [(.int (1 : Int32))] (rest := []) (W := 0) d0_420 (hw _ (List.mem_of_getElem? (i := 73) rfl)) (hw _ (List.mem_of_getElem? (i := 74) rfl)) (hw _ (List.mem_of_getElem? (i := 76) rfl)) (hw _ (List.mem_of_getElem? (i := 75) rfl)) (hw _ (List.mem_of_getElem? (i := 8) rfl)) (hw _ (List.mem_of_getElem? (i := 77) rfl)) (by decide) F.exa (rm_length l Z a0 hw _ n0 a a tx sa ea da kt ks ke kd te _ _ _ _ _ _ _ (1 : Int32) (iN s1) (iN e1) 1 F A (by decide) (hG 1 _ rfl).1 (hG 1 _ rfl).2) pd_0 rfl rfl rfl rfl (by decide) (by decide) (by decide) (by decide) fun v442 T442 h442 P442 q442 => ?_
      obtain ⟨rfl, rfl⟩ := q442
      refine g_aload P442 d0_423 rfl rfl ?_
      refine g_iconst (v := (1 : Int32)) P442 d0_425 (by rfl) ?_
      refine g_iaload (i := 1) (v := (.int (iN e1 - iN s1))) P442 d0_426 AX (by decide) rfl ?_
      refine g_icmpNo P442 d0_427 (teq rfl).2 ?_
      refine g_iconst (v := (1 : Int32)) P442 d0_430 (by rfl) ?_
      refine g_goto P442 d0_431 435 (by decide) (by decide) ?_
      refine g_istore P442 d0_435 #[.val (.int p1), .val (.int p2), .val (.int p3), .val (.int p4), .val (.int (3 : Int32)), .val (.int (1 : Int32)), .val (.int (0 : Int32)), .val (.ref tx), .val (.ref xp), .val (.int (iN f2)), .val (.ref a), .val (.int (1 : Int32))] rfl ?_
      refine g_iload P442 d0_437 rfl ?_
      refine g_iconst (v := (2 : Int32)) P442 d0_439 (by rfl) ?_
      refine g_icmpNo P442 d0_440 (by decide) ?_
      refine g_iload P442 d0_443 rfl ?_
      refine g_ifNo P442 d0_445 (by decide) ?_
      refine g_aload P442 d0_448 rfl rfl ?_
      refine g_iconst (v := (2 : Int32)) P442 d0_450 (by rfl) ?_
      refine g_virtual P442 a [(.int (2 : Int32))] (rest := []) (W := 0) d0_451 (hw _ (List.mem_of_getElem? (i := 73) rfl)) (hw _ (List.mem_of_getElem? (i := 74) rfl)) (hw _ (List.mem_of_getElem? (i := 76) rfl)) (hw _ (List.mem_of_getElem? (i := 75) rfl)) (hw _ (List.mem_of_getElem? (i := 8) rfl)) (hw _ (List.mem_of_getElem? (i := 77) rfl)) (by decide) F.exa (rm_length l Z a0 hw _ n0 a a tx sa ea da kt ks ke kd te _ _ _ _ _ _ _ (2 : Int32) (iN s2) (iN e2) 2 F A (by decide) (hG 2 _ rfl).1 (hG 2 _ rfl).2) pd_0 rfl rfl rfl rfl (by decide) (by decide) (by decide) (by decide) fun v443 T443 h443 P443 q443 => ?_
      obtain ⟨rfl, rfl⟩ := q443
      refine g_aload P443 d0_454 rfl rfl ?_
      refine g_iconst (v := (2 : Int32)) P443 d0_456 (by rfl) ?_
      refine g_iaload (i := 2) (v := (.int (iN e2 - iN s2))) P443 d0_457 AX (by decide) rfl ?_
      refine g_icmpNo P443 d0_458 (teq rfl).2 ?_
      refine g_iconst (v := (1 : Int32)) P443 d0_461 (by rfl) ?_
      refine g_goto P443 d0_462 466 (by decide) (by decide) ?_
      refine g_istore P443 d0_466 #[.val (.int p1), .val (.int p2), .val (.int p3), .val (.int p4), .val (.int (3 : Int32)), .val (.int (1 : Int32)), .val (.int (0 : Int32)), .val (.ref tx), .val (.ref xp), .val (.int (iN f2)), .val (.ref a), .val (.int (1 : Int32))] rfl ?_
      refine g_iload P443 d0_468 rfl ?_
      exact g_retZ P443 d0_470 (by decide) (by decide) (by decide) rfl
    · refine g_static P350 [(.ref tx), (.int (0 : Int32)), (.ref xp), (.int (0 : Int32)), (.int p1), (.int p2), (.int (3 : Int32)), (.int (1 : Int32))] (rest := []) (W := 0) d0_245 (hw _ (List.mem_of_getElem? (i := 2) rfl)) (hw _ (List.mem_of_getElem? (i := 3) rfl)) (hw _ (List.mem_of_getElem? (i := 4) rfl)) (hw _ (List.mem_of_getElem? (i := 5) rfl)) (by decide) (rm_field_mid1 l Z a0 hw _ n0 tx xp kt kx t _ (0) 0 (0 : Int32) p1 p2 (3 : Int32) AT lt hB hZ (by omega) AX (by decide) (dT rfl) ge gx xt tx_ (by decide)) pd_8 rfl rfl rfl rfl (by decide) (by decide) (by decide) (by decide) fun v444 T444 h444 P444 q444 => ?_
      obtain ⟨t0, s0, e0, f0, rfl, AT, lt, hB, AX, hF0, hf0, hlow, hZ, K⟩ := q444
      have X := ext_below X (Below.refl.keep K (in2 gt gxx)) (Nat.le_refl _)
      have o0 := hF0.le
      refine g_istore P444 d0_248 #[.val (.int p1), .val (.int p2), .val (.int p3), .val (.int p4), .val (.int (3 : Int32)), .val (.int (2 : Int32)), .val (.int (1 : Int32)), .val (.ref tx), .val (.ref xp), .val (.int (iN f0)), .unset, .unset] rfl ?_
      refine g_iload P444 d0_250 rfl ?_
      refine g_iconst (v := (1 : Int32)) P444 d0_252 (by rfl) ?_
      refine g_icmpNo P444 d0_253 (by decide) ?_
      refine g_aload P444 d0_256 rfl rfl ?_
      refine g_iload P444 d0_258 rfl ?_
      refine g_bipush (v := (44 : Int32)) P444 d0_260 (by rfl) ?_
      refine g_bastoreB (i := f0) (w := 44) P444 d0_262 AT (ix_iN (by omega)) (by simp only [List.length_map, List.length_set]; omega) ge (by decide) fun T445 h445 P445 W445 AT => ?_
      rw [map_set'] at AT
      have X := ext_wr X W445 gt
      have AX := AX.other W445 xt
      obtain ⟨c0, ht_c0⟩ : ∃ q, q = t0.set f0 44 := ⟨_, rfl⟩
      rw [← ht_c0] at AT
      have hF0 := hF0.congr (fun i hi => (by rw [ht_c0, List.getElem?_set_ne (by omega)] : c0[i]? = t0[i]?))
      have g_c0 : c0[f0]? = some 44 := by rw [ht_c0, List.getElem?_set_self (by omega)]
      have lt : c0.length = 32 := by rw [ht_c0, List.length_set]; exact lt
      have hB : AllB c0 := by rw [ht_c0]; exact hB.set (by decide)
      have hZ : Zs c0 (f0 + 1) 32 := by rw [ht_c0]; exact (hZ.sub (by omega) (Nat.le_refl _)).set (by omega)
      refine g_aload P445 d0_263 rfl rfl ?_
      refine g_iload P445 d0_265 rfl ?_
      refine g_iconst (v := (1 : Int32)) P445 d0_267 (by rfl) ?_
      refine g_iadd (v := (iN (f0 + 1))) P445 d0_268 (iN_add _ 1) ?_
      refine g_aload P445 d0_269 rfl rfl ?_
      refine g_iconst (v := (1 : Int32)) P445 d0_271 (by rfl) ?_
      refine g_iloadN P445 d0_272 rfl ?_
      refine g_iloadN P445 d0_273 rfl ?_
      refine g_iload P445 d0_274 rfl ?_
      refine g_iload P445 d0_276 rfl ?_
      refine g_static P445 [(.ref tx), (.int (iN (f0 + 1))), (.ref xp), (.int (1 : Int32)), (.int p1), (.int p3), (.int (3 : Int32)), (.int (1 : Int32))] (rest := []) (W := 0) d0_278 (hw _ (List.mem_of_getElem? (i := 2) rfl)) (hw _ (List.mem_of_getElem? (i := 3) rfl)) (hw _ (List.mem_of_getElem? (i := 4) rfl)) (hw _ (List.mem_of_getElem? (i := 5) rfl)) (by decide) (rm_field_mid1 l Z a0 hw _ n0 tx xp kt kx c0 _ (f0 + 1) 1 (1 : Int32) p1 p3 (3 : Int32) AT lt hB hZ (by omega) AX (by decide) (dT rfl) ge gx xt tx_ (by decide)) pd_8 rfl rfl rfl rfl (by decide) (by decide) (by decide) (by decide) fun v446 T446 h446 P446 q446 => ?_
      obtain ⟨t1, s1, e1, f1, rfl, AT, lt, hB, AX, hF1, hf1, hlow, hZ, K⟩ := q446
      have X := ext_below X (Below.refl.keep K (in2 gt gxx)) (Nat.le_refl _)
      have hF0 := hF0.congr (fun i hi => hlow i (by omega))
      have g_c0 : t1[f0]? = some 44 := (hlow f0 (by omega)).trans g_c0
      have o1 := hF1.le
      refine g_istore P446 d0_281 #[.val (.int p1), .val (.int p2), .val (.int p3), .val (.int p4), .val (.int (3 : Int32)), .val (.int (2 : Int32)), .val (.int (1 : Int32)), .val (.ref tx), .val (.ref xp), .val (.int (iN f1)), .unset, .unset] rfl ?_
      refine g_iload P446 d0_283 rfl ?_
      refine g_iconst (v := (2 : Int32)) P446 d0_285 (by rfl) ?_
      refine g_icmpNo P446 d0_286 (by decide) ?_
      refine g_aload P446 d0_289 rfl rfl ?_
      refine g_iload P446 d0_291 rfl ?_
      refine g_bipush (v := (44 : Int32)) P446 d0_293 (by rfl) ?_
      refine g_bastoreB (i := f1) (w := 44) P446 d0_295 AT (ix_iN (by omega)) (by simp only [List.length_map, List.length_set]; omega) ge (by decide) fun T447 h447 P447 W447 AT => ?_
      rw [map_set'] at AT
      have X := ext_wr X W447 gt
      have AX := AX.other W447 xt
      obtain ⟨c1, ht_c1⟩ : ∃ q, q = t1.set f1 44 := ⟨_, rfl⟩
      rw [← ht_c1] at AT
      have hF0 := hF0.congr (fun i hi => (by rw [ht_c1, List.getElem?_set_ne (by omega)] : c1[i]? = t1[i]?))
      have hF1 := hF1.congr (fun i hi => (by rw [ht_c1, List.getElem?_set_ne (by omega)] : c1[i]? = t1[i]?))
      have g_c0 : c1[f0]? = some 44 := by rw [ht_c1, List.getElem?_set_ne (by omega)]; exact g_c0
      have g_c1 : c1[f1]? = some 44 := by rw [ht_c1, List.getElem?_set_self (by omega)]
      have lt : c1.length = 32 := by rw [ht_c1, List.length_set]; exact lt
      have hB : AllB c1 := by rw [ht_c1]; exact hB.set (by decide)
      have hZ : Zs c1 (f1 + 1) 32 := by rw [ht_c1]; exact (hZ.sub (by omega) (Nat.le_refl _)).set (by omega)
      refine g_aload P447 d0_296 rfl rfl ?_
      refine g_iload P447 d0_298 rfl ?_
      refine g_iconst (v := (1 : Int32)) P447 d0_300 (by rfl) ?_
      refine g_iadd (v := (iN (f1 + 1))) P447 d0_301 (iN_add _ 1) ?_
      refine g_aload P447 d0_302 rfl rfl ?_
      refine g_iconst (v := (2 : Int32)) P447 d0_304 (by rfl) ?_
      refine g_iloadN P447 d0_305 rfl ?_
      refine g_iloadN P447 d0_306 rfl ?_
      refine g_iload P447 d0_307 rfl ?_
      refine g_iload P447 d0_309 rfl ?_
      refine g_static P447 [(.ref tx), (.int (iN (f1 + 1))), (.ref xp), (.int (2 : Int32)), (.int p1), (.int p4), (.int (3 : Int32)), (.int (1 : Int32))] (rest := []) (W := 0) d0_311 (hw _ (List.mem_of_getElem? (i := 2) rfl)) (hw _ (List.mem_of_getElem? (i := 3) rfl)) (hw _ (List.mem_of_getElem? (i := 4) rfl)) (hw _ (List.mem_of_getElem? (i := 5) rfl)) (by decide) (rm_field_end l Z a0 hw _ n0 tx xp kt kx c1 _ (f1 + 1) 2 (2 : Int32) p1 p4 (3 : Int32) AT lt hB hZ (by omega) AX (by decide) (dT rfl) ge gx xt tx_ (by decide)) pd_8 rfl rfl rfl rfl (by decide) (by decide) (by decide) (by decide) fun v448 T448 h448 P448 q448 => ?_
      obtain ⟨t2, s2, e2, rfl, AT, lt, hB, AX, hF2, hlow, K⟩ := q448
      have X := ext_below X (Below.refl.keep K (in2 gt gxx)) (Nat.le_refl _)
      have hF0 := hF0.congr (fun i hi => hlow i (by omega))
      have hF1 := hF1.congr (fun i hi => hlow i (by omega))
      have g_c0 : t2[f0]? = some 44 := (hlow f0 (by omega)).trans g_c0
      have g_c1 : t2[f1]? = some 44 := (hlow f1 (by omega)).trans g_c1
      have o2 := hF2.le
      refine g_istore P448 d0_314 #[.val (.int p1), .val (.int p2), .val (.int p3), .val (.int p4), .val (.int (3 : Int32)), .val (.int (2 : Int32)), .val (.int (1 : Int32)), .val (.ref tx), .val (.ref xp), .val (.int (iN 32)), .unset, .unset] rfl ?_
      refine g_iload P448 d0_316 rfl ?_
      refine g_ifYes P448 d0_318 (by decide) 331 (by decide) (by decide) ?_
      refine g_iload P448 d0_331 rfl ?_
      refine g_iconst (v := (1 : Int32)) P448 d0_333 (by rfl) ?_
      refine g_icmpYes P448 d0_334 (by decide) 353 (by decide) (by decide) ?_
      have hE : EndAt t2 32 := Or.inl rfl
      have hR : Rec t2 0 [(s0, e0, f0), (s1, e1, f1), (s2, e2, 32)] := ⟨hF0, g_c0, ⟨hF1, g_c1, ⟨hF2, (by omega : @LE.le Nat _ 32 32), hE⟩⟩⟩
      refine g_new P448 d0_353 (hw _ (List.mem_of_getElem? (i := 6) rfl)) (hw _ (List.mem_of_getElem? (i := 7) rfl)) (hw _ (List.mem_of_getElem? (i := 8) rfl)) (by decide) (by decide) fun T449 h449 a P449 e449 E449 A449 F449 => ?_
      have lt1 := AT.lt
      have lx1 := AX.lt
      have X := ext_trans X E449
      have AT := AT.ext E449
      have AX := AX.ext E449
      have txl : tx < a := (by omega : @LT.lt Nat _ tx a)
      have txa : tx ≠ a := nN (by omega)
      have xpl : @LT.lt Nat _ xp a := by omega
      have ga : n0 ≤ a := by omega
      have bma : bm ≠ a := nN (by have := AM.lt; omega)
      have gza : h0.size ≤ a := by omega
      have F_text := F449 (Or.inr (hw _ (List.mem_of_getElem? (i := 23) rfl)) : Laid Z a0 "com/example/lintel/lintel/io/CsvReader" "com/example/lintel/lintel/io/CsvReader" "text" "[B") (ty := (.array .byte)) (by decide)
      have F_length := F449 (Or.inr (hw _ (List.mem_of_getElem? (i := 25) rfl)) : Laid Z a0 "com/example/lintel/lintel/io/CsvReader" "com/example/lintel/lintel/io/CsvReader" "length" "I") (ty := .int) (by decide)
      have F_starts := F449 (Or.inl (hw _ (List.mem_of_getElem? (i := 16) rfl)) : Laid Z a0 "com/example/lintel/lintel/io/CsvReader" "com/example/lintel/lintel/io/CsvReader" "starts" "[I") (ty := (.array .int)) (by decide)
      have F_ends := F449 (Or.inl (hw _ (List.mem_of_getElem? (i := 18) rfl)) : Laid Z a0 "com/example/lintel/lintel/io/CsvReader" "com/example/lintel/lintel/io/CsvReader" "ends" "[I") (ty := (.array .int)) (by decide)
      have F_doubledQuotes := F449 (Or.inl (hw _ (List.mem_of_getElem? (i := 21) rfl)) : Laid Z a0 "com/example/lintel/lintel/io/CsvReader" "com/example/lintel/lintel/io/CsvReader" "doubledQuotes" "[Z") (ty := (.array .boolean)) (by decide)
      have F_at := F449 (Or.inl (hw _ (List.mem_of_getElem? (i := 44) rfl)) : Laid Z a0 "com/example/lintel/lintel/io/CsvReader" "com/example/lintel/lintel/io/CsvReader" "at" "I") (ty := .int) (by decide)
      have F_row := F449 (Or.inl (hw _ (List.mem_of_getElem? (i := 51) rfl)) : Laid Z a0 "com/example/lintel/lintel/io/CsvReader" "com/example/lintel/lintel/io/CsvReader" "row" "I") (ty := .int) (by decide)
      have F_bytesOr := F449 (Or.inl (hw _ (List.mem_of_getElem? (i := 63) rfl)) : Laid Z a0 "com/example/lintel/lintel/io/CsvReader" "com/example/lintel/lintel/io/CsvReader" "bytesOr" "I") (ty := .int) (by decide)
      have F_size := F449 (Or.inl (hw _ (List.mem_of_getElem? (i := 53) rfl)) : Laid Z a0 "com/example/lintel/lintel/io/CsvReader" "com/example/lintel/lintel/io/CsvReader" "size" "I") (ty := .int) (by decide)
      refine g_dup P449 d0_356 rfl ?_
      refine g_aload P449 d0_357 rfl rfl ?_
      refine g_special P449 a [(.ref tx)] (rest := [(.ref a)]) (W := 1) d0_359 rfl (hw _ (List.mem_of_getElem? (i := 9) rfl)) (hw _ (List.mem_of_getElem? (i := 10) rfl)) (hw _ (List.mem_of_getElem? (i := 8) rfl)) (hw _ (List.mem_of_getElem? (i := 11) rfl)) (by decide) (rm_init l Z a0 hw _ n0 a tx bm kt kb t2 vb ga A449 F_text F_length F_starts F_ends F_doubledQuotes F_at F_row F_bytesOr F_size AT lt hB txl txa (S_BOM.ext X) (AM.ext X) lb gm bma) pd_9 rfl rfl rfl rfl (by decide) (by decide) (by decide) (by decide) fun v450 T450 h450 P450 q450 => ?_
      obtain ⟨rfl, sa, ea, da, ks, ke, kd, F, A, D1, B⟩ := q450
      have AX := AX.blw B xpl
      refine g_astore P450 d0_362 rfl #[.val (.int p1), .val (.int p2), .val (.int p3), .val (.int p4), .val (.int (3 : Int32)), .val (.int (2 : Int32)), .val (.int (1 : Int32)), .val (.ref tx), .val (.ref xp), .val (.int (iN 32)), .val (.ref a), .unset] rfl ?_
      refine g_aload P450 d0_364 rfl rfl ?_
      refine g_virtual P450 a [] (rest := []) (W := 0) d0_366 (hw _ (List.mem_of_getElem? (i := 45) rfl)) (hw _ (List.mem_of_getElem? (i := 46) rfl)) (hw _ (List.mem_of_getElem? (i := 48) rfl)) (hw _ (List.mem_of_getElem? (i := 47) rfl)) (hw _ (List.mem_of_getElem? (i := 8) rfl)) (hw _ (List.mem_of_getElem? (i := 49) rfl)) (by decide) F.exa (rm_next l Z a0 hw _ n0 a a tx sa ea da kt ks ke kd t2 _ _ _ _ _ _ [(s0, e0, f0), (s1, e1, f1), (s2, e2, 32)] ga F A hB D1 (by decide) hR (by simp)) pd_10 rfl rfl rfl rfl (by decide) (by decide) (by decide) (by decide) fun v451 T451 h451 P451 q451 => ?_
      obtain ⟨rfl, av, rv, bo, st, en, dq, F, A, hG, B⟩ := q451
      have AX := AX.blw B xpl
      refine g_ifYes P451 d0_369 (by decide) 374 (by decide) (by decide) ?_
      refine g_aload P451 d0_374 rfl rfl ?_
      refine g_virtual P451 a [] (rest := []) (W := 0) d0_376 (hw _ (List.mem_of_getElem? (i := 68) rfl)) (hw _ (List.mem_of_getElem? (i := 69) rfl)) (hw _ (List.mem_of_getElem? (i := 71) rfl)) (hw _ (List.mem_of_getElem? (i := 70) rfl)) (hw _ (List.mem_of_getElem? (i := 8) rfl)) (hw _ (List.mem_of_getElem? (i := 72) rfl)) (by decide) F.exa (rm_size l Z a0 hw _ n0 a a tx sa ea da kt ks ke kd t2 [] [] [] _ _ _ _ F) pd_2 rfl rfl rfl rfl (by decide) (by decide) (by decide) (by decide) fun v452 T452 h452 P452 q452 => ?_
      obtain ⟨rfl, rfl⟩ := q452
      refine g_iload P452 d0_379 rfl ?_
      refine g_icmpYes P452 d0_381 (teq rfl).1 386 (by decide) (by decide) ?_
      refine g_aload P452 d0_386 rfl rfl ?_
      refine g_iconst (v := (0 : Int32)) P452 d0_388 (by rfl) ?_
      refine g_virtual P452 a [(.int (0 : Int32))] (rest := []) (W := 0) d0_389 (hw _ (List.mem_of_getElem? (i := 73) rfl)) (hw _ (List.mem_of_getElem? (i := 74) rfl)) (hw _ (List.mem_of_getElem? (i := 76) rfl)) (hw _ (List.mem_of_getElem? (i := 75) rfl)) (hw _ (List.mem_of_getElem? (i := 8) rfl)) (hw _ (List.mem_of_getElem? (i := 77) rfl)) (by decide) F.exa (rm_length l Z a0 hw _ n0 a a tx sa ea da kt ks ke kd t2 _ _ _ _ _ _ _ (0 : Int32) (iN s0) (iN e0) 0 F A (by decide) (hG 0 _ rfl).1 (hG 0 _ rfl).2) pd_0 rfl rfl rfl rfl (by decide) (by decide) (by decide) (by decide) fun v453 T453 h453 P453 q453 => ?_
      obtain ⟨rfl, rfl⟩ := q453
      refine g_aload P453 d0_392 rfl rfl ?_
      refine g_iconst (v := (0 : Int32)) P453 d0_394 (by rfl) ?_
      refine g_iaload (i := 0) (v := (.int (iN e0 - iN s0))) P453 d0_395 AX (by decide) rfl ?_
      refine g_icmpNo P453 d0_396 (teq rfl).2 ?_
      refine g_iconst (v := (1 : Int32)) P453 d0_399 (by rfl) ?_
      refine g_goto P453 d0_400 404 (by decide) (by decide) ?_
      refine g_istore P453 d0_404 #[.val (.int p1), .val (.int p2), .val (.int p3), .val (.int p4), .val (.int (3 : Int32)), .val (.int (2 : Int32)), .val (.int (1 : Int32)), .val (.ref tx), .val (.ref xp), .val (.int (iN 32)), .val (.ref a), .val (.int (1 : Int32))] rfl ?_
      refine g_iload P453 d0_406 rfl ?_
      refine g_iconst (v := (1 : Int32)) P453 d0_408 (by rfl) ?_
      refine g_icmpNo P453 d0_409 (by decide) ?_
      refine g_iload P453 d0_412 rfl ?_
      refine g_ifNo P453 d0_414 (by decide) ?_
      refine g_aload P453 d0_417 rfl rfl ?_
      refine g_iconst (v := (1 : Int32)) P453 d0_419 (by rfl) ?_
      refine g_virtual P453 a [(.int (1 : Int32))] (rest := []) (W := 0) d0_420 (hw _ (List.mem_of_getElem? (i := 73) rfl)) (hw _ (List.mem_of_getElem? (i := 74) rfl)) (hw _ (List.mem_of_getElem? (i := 76) rfl)) (hw _ (List.mem_of_getElem? (i := 75) rfl)) (hw _ (List.mem_of_getElem? (i := 8) rfl)) (hw _ (List.mem_of_getElem? (i := 77) rfl)) (by decide) F.exa (rm_length l Z a0 hw _ n0 a a tx sa ea da kt ks ke kd t2 _ _ _ _ _ _ _ (1 : Int32) (iN s1) (iN e1) 1 F A (by decide) (hG 1 _ rfl).1 (hG 1 _ rfl).2) pd_0 rfl rfl rfl rfl (by decide) (by decide) (by decide) (by decide) fun v454 T454 h454 P454 q454 => ?_
      obtain ⟨rfl, rfl⟩ := q454
      refine g_aload P454 d0_423 rfl rfl ?_
      refine g_iconst (v := (1 : Int32)) P454 d0_425 (by rfl) ?_
      refine g_iaload (i := 1) (v := (.int (iN e1 - iN s1))) P454 d0_426 AX (by decide) rfl ?_
      refine g_icmpNo P454 d0_427 (teq rfl).2 ?_
      refine g_iconst (v := (1 : Int32)) P454 d0_430 (by rfl) ?_
      refine g_goto P454 d0_431 435 (by decide) (by decide) ?_
      refine g_istore P454 d0_435 #[.val (.int p1), .val (.int p2), .val (.int p3), .val (.int p4), .val (.int (3 : Int32)), .val (.int (2 : Int32)), .val (.int (1 : Int32)), .val (.ref tx), .val (.ref xp), .val (.int (iN 32)), .val (.ref a), .val (.int (1 : Int32))] rfl ?_
      refine g_iload P454 d0_437 rfl ?_
      refine g_iconst (v := (2 : Int32)) P454 d0_439 (by rfl) ?_
      refine g_icmpNo P454 d0_440 (by decide) ?_
      refine g_iload P454 d0_443 rfl ?_
      refine g_ifNo P454 d0_445 (by decide) ?_
      refine g_aload P454 d0_448 rfl rfl ?_
      refine g_iconst (v := (2 : Int32)) P454 d0_450 (by rfl) ?_
      refine g_virtual P454 a [(.int (2 : Int32))] (rest := []) (W := 0) d0_451 (hw _ (List.mem_of_getElem? (i := 73) rfl)) (hw _ (List.mem_of_getElem? (i := 74) rfl)) (hw _ (List.mem_of_getElem? (i := 76) rfl)) (hw _ (List.mem_of_getElem? (i := 75) rfl)) (hw _ (List.mem_of_getElem? (i := 8) rfl)) (hw _ (List.mem_of_getElem? (i := 77) rfl)) (by decide) F.exa (rm_length l Z a0 hw _ n0 a a tx sa ea da kt ks ke kd t2 _ _ _ _ _ _ _ (2 : Int32) (iN s2) (iN e2) 2 F A (by decide) (hG 2 _ rfl).1 (hG 2 _ rfl).2) pd_0 rfl rfl rfl rfl (by decide) (by decide) (by decide) (by decide) fun v455 T455 h455 P455 q455 => ?_
      obtain ⟨rfl, rfl⟩ := q455
      refine g_aload P455 d0_454 rfl rfl ?_
      refine g_iconst (v := (2 : Int32)) P455 d0_456 (by rfl) ?_
      refine g_iaload (i := 2) (v := (.int (iN e2 - iN s2))) P455 d0_457 AX (by decide) rfl ?_
      refine g_icmpNo P455 d0_458 (teq rfl).2 ?_
      refine g_iconst (v := (1 : Int32)) P455 d0_461 (by rfl) ?_
      refine g_goto P455 d0_462 466 (by decide) (by decide) ?_
      refine g_istore P455 d0_466 #[.val (.int p1), .val (.int p2), .val (.int p3), .val (.int p4), .val (.int (3 : Int32)), .val (.int (2 : Int32)), .val (.int (1 : Int32)), .val (.ref tx), .val (.ref xp), .val (.int (iN 32)), .val (.ref a), .val (.int (1 : Int32))] rfl ?_
      refine g_iload P455 d0_468 rfl ?_
      exact g_retZ P455 d0_470 (by decide) (by decide) (by decide) rfl
    · refine g_static P350 [(.ref tx), (.int (0 : Int32)), (.ref xp), (.int (0 : Int32)), (.int p1), (.int p2), (.int (3 : Int32)), (.int (1 : Int32))] (rest := []) (W := 0) d0_245 (hw _ (List.mem_of_getElem? (i := 2) rfl)) (hw _ (List.mem_of_getElem? (i := 3) rfl)) (hw _ (List.mem_of_getElem? (i := 4) rfl)) (hw _ (List.mem_of_getElem? (i := 5) rfl)) (by decide) (rm_field_mid1 l Z a0 hw _ n0 tx xp kt kx t _ (0) 0 (0 : Int32) p1 p2 (3 : Int32) AT lt hB hZ (by omega) AX (by decide) (dT rfl) ge gx xt tx_ (by decide)) pd_8 rfl rfl rfl rfl (by decide) (by decide) (by decide) (by decide) fun v456 T456 h456 P456 q456 => ?_
      obtain ⟨t0, s0, e0, f0, rfl, AT, lt, hB, AX, hF0, hf0, hlow, hZ, K⟩ := q456
      have X := ext_below X (Below.refl.keep K (in2 gt gxx)) (Nat.le_refl _)
      have o0 := hF0.le
      refine g_istore P456 d0_248 #[.val (.int p1), .val (.int p2), .val (.int p3), .val (.int p4), .val (.int (3 : Int32)), .val (.int (3 : Int32)), .val (.int (1 : Int32)), .val (.ref tx), .val (.ref xp), .val (.int (iN f0)), .unset, .unset] rfl ?_
      refine g_iload P456 d0_250 rfl ?_
      refine g_iconst (v := (1 : Int32)) P456 d0_252 (by rfl) ?_
      refine g_icmpNo P456 d0_253 (by decide) ?_
      refine g_aload P456 d0_256 rfl rfl ?_
      refine g_iload P456 d0_258 rfl ?_
      refine g_bipush (v := (44 : Int32)) P456 d0_260 (by rfl) ?_
      refine g_bastoreB (i := f0) (w := 44) P456 d0_262 AT (ix_iN (by omega)) (by simp only [List.length_map, List.length_set]; omega) ge (by decide) fun T457 h457 P457 W457 AT => ?_
      rw [map_set'] at AT
      have X := ext_wr X W457 gt
      have AX := AX.other W457 xt
      obtain ⟨c0, ht_c0⟩ : ∃ q, q = t0.set f0 44 := ⟨_, rfl⟩
      rw [← ht_c0] at AT
      have hF0 := hF0.congr (fun i hi => (by rw [ht_c0, List.getElem?_set_ne (by omega)] : c0[i]? = t0[i]?))
      have g_c0 : c0[f0]? = some 44 := by rw [ht_c0, List.getElem?_set_self (by omega)]
      have lt : c0.length = 32 := by rw [ht_c0, List.length_set]; exact lt
      have hB : AllB c0 := by rw [ht_c0]; exact hB.set (by decide)
      have hZ : Zs c0 (f0 + 1) 32 := by rw [ht_c0]; exact (hZ.sub (by omega) (Nat.le_refl _)).set (by omega)
      refine g_aload P457 d0_263 rfl rfl ?_
      refine g_iload P457 d0_265 rfl ?_
      refine g_iconst (v := (1 : Int32)) P457 d0_267 (by rfl) ?_
      refine g_iadd (v := (iN (f0 + 1))) P457 d0_268 (iN_add _ 1) ?_
      refine g_aload P457 d0_269 rfl rfl ?_
      refine g_iconst (v := (1 : Int32)) P457 d0_271 (by rfl) ?_
      refine g_iloadN P457 d0_272 rfl ?_
      refine g_iloadN P457 d0_273 rfl ?_
      refine g_iload P457 d0_274 rfl ?_
      refine g_iload P457 d0_276 rfl ?_
      refine g_static P457 [(.ref tx), (.int (iN (f0 + 1))), (.ref xp), (.int (1 : Int32)), (.int p1), (.int p3), (.int (3 : Int32)), (.int (1 : Int32))] (rest := []) (W := 0) d0_278 (hw _ (List.mem_of_getElem? (i := 2) rfl)) (hw _ (List.mem_of_getElem? (i := 3) rfl)) (hw _ (List.mem_of_getElem? (i := 4) rfl)) (hw _ (List.mem_of_getElem? (i := 5) rfl)) (by decide) (rm_field_mid1 l Z a0 hw _ n0 tx xp kt kx c0 _ (f0 + 1) 1 (1 : Int32) p1 p3 (3 : Int32) AT lt hB hZ (by omega) AX (by decide) (dT rfl) ge gx xt tx_ (by decide)) pd_8 rfl rfl rfl rfl (by decide) (by decide) (by decide) (by decide) fun v458 T458 h458 P458 q458 => ?_
      obtain ⟨t1, s1, e1, f1, rfl, AT, lt, hB, AX, hF1, hf1, hlow, hZ, K⟩ := q458
      have X := ext_below X (Below.refl.keep K (in2 gt gxx)) (Nat.le_refl _)
      have hF0 := hF0.congr (fun i hi => hlow i (by omega))
      have g_c0 : t1[f0]? = some 44 := (hlow f0 (by omega)).trans g_c0
      have o1 := hF1.le
      refine g_istore P458 d0_281 #[.val (.int p1), .val (.int p2), .val (.int p3), .val (.int p4), .val (.int (3 : Int32)), .val (.int (3 : Int32)), .val (.int (1 : Int32)), .val (.ref tx), .val (.ref xp), .val (.int (iN f1)), .unset, .unset] rfl ?_
      refine g_iload P458 d0_283 rfl ?_
      refine g_iconst (v := (2 : Int32)) P458 d0_285 (by rfl) ?_
      refine g_icmpNo P458 d0_286 (by decide) ?_
      refine g_aload P458 d0_289 rfl rfl ?_
      refine g_iload P458 d0_291 rfl ?_
      refine g_bipush (v := (44 : Int32)) P458 d0_293 (by rfl) ?_
      refine g_bastoreB (i := f1) (w := 44) P458 d0_295 AT (ix_iN (by omega)) (by simp only [List.length_map, List.length_set]; omega) ge (by decide) fun T459 h459 P459 W459 AT => ?_
      rw [map_set'] at AT
      have X := ext_wr X W459 gt
      have AX := AX.other W459 xt
      obtain ⟨c1, ht_c1⟩ : ∃ q, q = t1.set f1 44 := ⟨_, rfl⟩
      rw [← ht_c1] at AT
      have hF0 := hF0.congr (fun i hi => (by rw [ht_c1, List.getElem?_set_ne (by omega)] : c1[i]? = t1[i]?))
      have hF1 := hF1.congr (fun i hi => (by rw [ht_c1, List.getElem?_set_ne (by omega)] : c1[i]? = t1[i]?))
      have g_c0 : c1[f0]? = some 44 := by rw [ht_c1, List.getElem?_set_ne (by omega)]; exact g_c0
      have g_c1 : c1[f1]? = some 44 := by rw [ht_c1, List.getElem?_set_self (by omega)]
      have lt : c1.length = 32 := by rw [ht_c1, List.length_set]; exact lt
      have hB : AllB c1 := by rw [ht_c1]; exact hB.set (by decide)
      have hZ : Zs c1 (f1 + 1) 32 := by rw [ht_c1]; exact (hZ.sub (by omega) (Nat.le_refl _)).set (by omega)
      refine g_aload P459 d0_296 rfl rfl ?_
      refine g_iload P459 d0_298 rfl ?_
      refine g_iconst (v := (1 : Int32)) P459 d0_300 (by rfl) ?_
      refine g_iadd (v := (iN (f1 + 1))) P459 d0_301 (iN_add _ 1) ?_
      refine g_aload P459 d0_302 rfl rfl ?_
      refine g_iconst (v := (2 : Int32)) P459 d0_304 (by rfl) ?_
      refine g_iloadN P459 d0_305 rfl ?_
      refine g_iloadN P459 d0_306 rfl ?_
      refine g_iload P459 d0_307 rfl ?_
      refine g_iload P459 d0_309 rfl ?_
      refine g_static P459 [(.ref tx), (.int (iN (f1 + 1))), (.ref xp), (.int (2 : Int32)), (.int p1), (.int p4), (.int (3 : Int32)), (.int (1 : Int32))] (rest := []) (W := 0) d0_311 (hw _ (List.mem_of_getElem? (i := 2) rfl)) (hw _ (List.mem_of_getElem? (i := 3) rfl)) (hw _ (List.mem_of_getElem? (i := 4) rfl)) (hw _ (List.mem_of_getElem? (i := 5) rfl)) (by decide) (rm_field_end l Z a0 hw _ n0 tx xp kt kx c1 _ (f1 + 1) 2 (2 : Int32) p1 p4 (3 : Int32) AT lt hB hZ (by omega) AX (by decide) (dT rfl) ge gx xt tx_ (by decide)) pd_8 rfl rfl rfl rfl (by decide) (by decide) (by decide) (by decide) fun v460 T460 h460 P460 q460 => ?_
      obtain ⟨t2, s2, e2, rfl, AT, lt, hB, AX, hF2, hlow, K⟩ := q460
      have X := ext_below X (Below.refl.keep K (in2 gt gxx)) (Nat.le_refl _)
      have hF0 := hF0.congr (fun i hi => hlow i (by omega))
      have hF1 := hF1.congr (fun i hi => hlow i (by omega))
      have g_c0 : t2[f0]? = some 44 := (hlow f0 (by omega)).trans g_c0
      have g_c1 : t2[f1]? = some 44 := (hlow f1 (by omega)).trans g_c1
      have o2 := hF2.le
      refine g_istore P460 d0_314 #[.val (.int p1), .val (.int p2), .val (.int p3), .val (.int p4), .val (.int (3 : Int32)), .val (.int (3 : Int32)), .val (.int (1 : Int32)), .val (.ref tx), .val (.ref xp), .val (.int (iN 32)), .unset, .unset] rfl ?_
      refine g_iload P460 d0_316 rfl ?_
      refine g_ifYes P460 d0_318 (by decide) 331 (by decide) (by decide) ?_
      refine g_iload P460 d0_331 rfl ?_
      refine g_iconst (v := (1 : Int32)) P460 d0_333 (by rfl) ?_
      refine g_icmpYes P460 d0_334 (by decide) 353 (by decide) (by decide) ?_
      have hE : EndAt t2 32 := Or.inl rfl
      have hR : Rec t2 0 [(s0, e0, f0), (s1, e1, f1), (s2, e2, 32)] := ⟨hF0, g_c0, ⟨hF1, g_c1, ⟨hF2, (by omega : @LE.le Nat _ 32 32), hE⟩⟩⟩
      refine g_new P460 d0_353 (hw _ (List.mem_of_getElem? (i := 6) rfl)) (hw _ (List.mem_of_getElem? (i := 7) rfl)) (hw _ (List.mem_of_getElem? (i := 8) rfl)) (by decide) (by decide) fun T461 h461 a P461 e461 E461 A461 F461 => ?_
      have lt1 := AT.lt
      have lx1 := AX.lt
      have X := ext_trans X E461
      have AT := AT.ext E461
      have AX := AX.ext E461
      have txl : tx < a := (by omega : @LT.lt Nat _ tx a)
      have txa : tx ≠ a := nN (by omega)
      have xpl : @LT.lt Nat _ xp a := by omega
      have ga : n0 ≤ a := by omega
      have bma : bm ≠ a := nN (by have := AM.lt; omega)
      have gza : h0.size ≤ a := by omega
      have F_text := F461 (Or.inr (hw _ (List.mem_of_getElem? (i := 23) rfl)) : Laid Z a0 "com/example/lintel/lintel/io/CsvReader" "com/example/lintel/lintel/io/CsvReader" "text" "[B") (ty := (.array .byte)) (by decide)
      have F_length := F461 (Or.inr (hw _ (List.mem_of_getElem? (i := 25) rfl)) : Laid Z a0 "com/example/lintel/lintel/io/CsvReader" "com/example/lintel/lintel/io/CsvReader" "length" "I") (ty := .int) (by decide)
      have F_starts := F461 (Or.inl (hw _ (List.mem_of_getElem? (i := 16) rfl)) : Laid Z a0 "com/example/lintel/lintel/io/CsvReader" "com/example/lintel/lintel/io/CsvReader" "starts" "[I") (ty := (.array .int)) (by decide)
      have F_ends := F461 (Or.inl (hw _ (List.mem_of_getElem? (i := 18) rfl)) : Laid Z a0 "com/example/lintel/lintel/io/CsvReader" "com/example/lintel/lintel/io/CsvReader" "ends" "[I") (ty := (.array .int)) (by decide)
      have F_doubledQuotes := F461 (Or.inl (hw _ (List.mem_of_getElem? (i := 21) rfl)) : Laid Z a0 "com/example/lintel/lintel/io/CsvReader" "com/example/lintel/lintel/io/CsvReader" "doubledQuotes" "[Z") (ty := (.array .boolean)) (by decide)
      have F_at := F461 (Or.inl (hw _ (List.mem_of_getElem? (i := 44) rfl)) : Laid Z a0 "com/example/lintel/lintel/io/CsvReader" "com/example/lintel/lintel/io/CsvReader" "at" "I") (ty := .int) (by decide)
      have F_row := F461 (Or.inl (hw _ (List.mem_of_getElem? (i := 51) rfl)) : Laid Z a0 "com/example/lintel/lintel/io/CsvReader" "com/example/lintel/lintel/io/CsvReader" "row" "I") (ty := .int) (by decide)
      have F_bytesOr := F461 (Or.inl (hw _ (List.mem_of_getElem? (i := 63) rfl)) : Laid Z a0 "com/example/lintel/lintel/io/CsvReader" "com/example/lintel/lintel/io/CsvReader" "bytesOr" "I") (ty := .int) (by decide)
      have F_size := F461 (Or.inl (hw _ (List.mem_of_getElem? (i := 53) rfl)) : Laid Z a0 "com/example/lintel/lintel/io/CsvReader" "com/example/lintel/lintel/io/CsvReader" "size" "I") (ty := .int) (by decide)
      refine g_dup P461 d0_356 rfl ?_
      refine g_aload P461 d0_357 rfl rfl ?_
      refine g_special P461 a [(.ref tx)] (rest := [(.ref a)]) (W := 1) d0_359 rfl (hw _ (List.mem_of_getElem? (i := 9) rfl)) (hw _ (List.mem_of_getElem? (i := 10) rfl)) (hw _ (List.mem_of_getElem? (i := 8) rfl)) (hw _ (List.mem_of_getElem? (i := 11) rfl)) (by decide) (rm_init l Z a0 hw _ n0 a tx bm kt kb t2 vb ga A461 F_text F_length F_starts F_ends F_doubledQuotes F_at F_row F_bytesOr F_size AT lt hB txl txa (S_BOM.ext X) (AM.ext X) lb gm bma) pd_9 rfl rfl rfl rfl (by decide) (by decide) (by decide) (by decide) fun v462 T462 h462 P462 q462 => ?_
      obtain ⟨rfl, sa, ea, da, ks, ke, kd, F, A, D1, B⟩ := q462
      have AX := AX.blw B xpl
      refine g_astore P462 d0_362 rfl #[.val (.int p1), .val (.int p2), .val (.int p3), .val (.int p4), .val (.int (3 : Int32)), .val (.int (3 : Int32)), .val (.int (1 : Int32)), .val (.ref tx), .val (.ref xp), .val (.int (iN 32)), .val (.ref a), .unset] rfl ?_
      refine g_aload P462 d0_364 rfl rfl ?_
      refine g_virtual P462 a [] (rest := []) (W := 0) d0_366 (hw _ (List.mem_of_getElem? (i := 45) rfl)) (hw _ (List.mem_of_getElem? (i := 46) rfl)) (hw _ (List.mem_of_getElem? (i := 48) rfl)) (hw _ (List.mem_of_getElem? (i := 47) rfl)) (hw _ (List.mem_of_getElem? (i := 8) rfl)) (hw _ (List.mem_of_getElem? (i := 49) rfl)) (by decide) F.exa (rm_next l Z a0 hw _ n0 a a tx sa ea da kt ks ke kd t2 _ _ _ _ _ _ [(s0, e0, f0), (s1, e1, f1), (s2, e2, 32)] ga F A hB D1 (by decide) hR (by simp)) pd_10 rfl rfl rfl rfl (by decide) (by decide) (by decide) (by decide) fun v463 T463 h463 P463 q463 => ?_
      obtain ⟨rfl, av, rv, bo, st, en, dq, F, A, hG, B⟩ := q463
      have AX := AX.blw B xpl
      refine g_ifYes P463 d0_369 (by decide) 374 (by decide) (by decide) ?_
      refine g_aload P463 d0_374 rfl rfl ?_
      refine g_virtual P463 a [] (rest := []) (W := 0) d0_376 (hw _ (List.mem_of_getElem? (i := 68) rfl)) (hw _ (List.mem_of_getElem? (i := 69) rfl)) (hw _ (List.mem_of_getElem? (i := 71) rfl)) (hw _ (List.mem_of_getElem? (i := 70) rfl)) (hw _ (List.mem_of_getElem? (i := 8) rfl)) (hw _ (List.mem_of_getElem? (i := 72) rfl)) (by decide) F.exa (rm_size l Z a0 hw _ n0 a a tx sa ea da kt ks ke kd t2 [] [] [] _ _ _ _ F) pd_2 rfl rfl rfl rfl (by decide) (by decide) (by decide) (by decide) fun v464 T464 h464 P464 q464 => ?_
      obtain ⟨rfl, rfl⟩ := q464
      refine g_iload P464 d0_379 rfl ?_
      refine g_icmpYes P464 d0_381 (teq rfl).1 386 (by decide) (by decide) ?_
      refine g_aload P464 d0_386 rfl rfl ?_
      refine g_iconst (v := (0 : Int32)) P464 d0_388 (by rfl) ?_
      refine g_virtual P464 a [(.int (0 : Int32))] (rest := []) (W := 0) d0_389 (hw _ (List.mem_of_getElem? (i := 73) rfl)) (hw _ (List.mem_of_getElem? (i := 74) rfl)) (hw _ (List.mem_of_getElem? (i := 76) rfl)) (hw _ (List.mem_of_getElem? (i := 75) rfl)) (hw _ (List.mem_of_getElem? (i := 8) rfl)) (hw _ (List.mem_of_getElem? (i := 77) rfl)) (by decide) F.exa (rm_length l Z a0 hw _ n0 a a tx sa ea da kt ks ke kd t2 _ _ _ _ _ _ _ (0 : Int32) (iN s0) (iN e0) 0 F A (by decide) (hG 0 _ rfl).1 (hG 0 _ rfl).2) pd_0 rfl rfl rfl rfl (by decide) (by decide) (by decide) (by decide) fun v465 T465 h465 P465 q465 => ?_
      obtain ⟨rfl, rfl⟩ := q465
      refine g_aload P465 d0_392 rfl rfl ?_
      refine g_iconst (v := (0 : Int32)) P465 d0_394 (by rfl) ?_
      refine g_iaload (i := 0) (v := (.int (iN e0 - iN s0))) P465 d0_395 AX (by decide) rfl ?_
      refine g_icmpNo P465 d0_396 (teq rfl).2 ?_
      refine g_iconst (v := (1 : Int32)) P465 d0_399 (by rfl) ?_
      refine g_goto P465 d0_400 404 (by decide) (by decide) ?_
      refine g_istore P465 d0_404 #[.val (.int p1), .val (.int p2), .val (.int p3), .val (.int p4), .val (.int (3 : Int32)), .val (.int (3 : Int32)), .val (.int (1 : Int32)), .val (.ref tx), .val (.ref xp), .val (.int (iN 32)), .val (.ref a), .val (.int (1 : Int32))] rfl ?_
      refine g_iload P465 d0_406 rfl ?_
      refine g_iconst (v := (1 : Int32)) P465 d0_408 (by rfl) ?_
      refine g_icmpNo P465 d0_409 (by decide) ?_
      refine g_iload P465 d0_412 rfl ?_
      refine g_ifNo P465 d0_414 (by decide) ?_
      refine g_aload P465 d0_417 rfl rfl ?_
      refine g_iconst (v := (1 : Int32)) P465 d0_419 (by rfl) ?_
      refine g_virtual P465 a [(.int (1 : Int32))] (rest := []) (W := 0) d0_420 (hw _ (List.mem_of_getElem? (i := 73) rfl)) (hw _ (List.mem_of_getElem? (i := 74) rfl)) (hw _ (List.mem_of_getElem? (i := 76) rfl)) (hw _ (List.mem_of_getElem? (i := 75) rfl)) (hw _ (List.mem_of_getElem? (i := 8) rfl)) (hw _ (List.mem_of_getElem? (i := 77) rfl)) (by decide) F.exa (rm_length l Z a0 hw _ n0 a a tx sa ea da kt ks ke kd t2 _ _ _ _ _ _ _ (1 : Int32) (iN s1) (iN e1) 1 F A (by decide) (hG 1 _ rfl).1 (hG 1 _ rfl).2) pd_0 rfl rfl rfl rfl (by decide) (by decide) (by decide) (by decide) fun v466 T466 h466 P466 q466 => ?_
      obtain ⟨rfl, rfl⟩ := q466
      refine g_aload P466 d0_423 rfl rfl ?_
      refine g_iconst (v := (1 : Int32)) P466 d0_425 (by rfl) ?_
      refine g_iaload (i := 1) (v := (.int (iN e1 - iN s1))) P466 d0_426 AX (by decide) rfl ?_
      refine g_icmpNo P466 d0_427 (teq rfl).2 ?_
      refine g_iconst (v := (1 : Int32)) P466 d0_430 (by rfl) ?_
      refine g_goto P466 d0_431 435 (by decide) (by decide) ?_
      refine g_istore P466 d0_435 #[.val (.int p1), .val (.int p2), .val (.int p3), .val (.int p4), .val (.int (3 : Int32)), .val (.int (3 : Int32)), .val (.int (1 : Int32)), .val (.ref tx), .val (.ref xp), .val (.int (iN 32)), .val (.ref a), .val (.int (1 : Int32))] rfl ?_
      refine g_iload P466 d0_437 rfl ?_
      refine g_iconst (v := (2 : Int32)) P466 d0_439 (by rfl) ?_
      refine g_icmpNo P466 d0_440 (by decide) ?_
      refine g_iload P466 d0_443 rfl ?_
      refine g_ifNo P466 d0_445 (by decide) ?_
      refine g_aload P466 d0_448 rfl rfl ?_
      refine g_iconst (v := (2 : Int32)) P466 d0_450 (by rfl) ?_
      refine g_virtual P466 a [(.int (2 : Int32))] (rest := []) (W := 0) d0_451 (hw _ (List.mem_of_getElem? (i := 73) rfl)) (hw _ (List.mem_of_getElem? (i := 74) rfl)) (hw _ (List.mem_of_getElem? (i := 76) rfl)) (hw _ (List.mem_of_getElem? (i := 75) rfl)) (hw _ (List.mem_of_getElem? (i := 8) rfl)) (hw _ (List.mem_of_getElem? (i := 77) rfl)) (by decide) F.exa (rm_length l Z a0 hw _ n0 a a tx sa ea da kt ks ke kd t2 _ _ _ _ _ _ _ (2 : Int32) (iN s2) (iN e2) 2 F A (by decide) (hG 2 _ rfl).1 (hG 2 _ rfl).2) pd_0 rfl rfl rfl rfl (by decide) (by decide) (by decide) (by decide) fun v467 T467 h467 P467 q467 => ?_
      obtain ⟨rfl, rfl⟩ := q467
      refine g_aload P467 d0_454 rfl rfl ?_
      refine g_iconst (v := (2 : Int32)) P467 d0_456 (by rfl) ?_
      refine g_iaload (i := 2) (v := (.int (iN e2 - iN s2))) P467 d0_457 AX (by decide) rfl ?_
      refine g_icmpNo P467 d0_458 (teq rfl).2 ?_
      refine g_iconst (v := (1 : Int32)) P467 d0_461 (by rfl) ?_
      refine g_goto P467 d0_462 466 (by decide) (by decide) ?_
      refine g_istore P467 d0_466 #[.val (.int p1), .val (.int p2), .val (.int p3), .val (.int p4), .val (.int (3 : Int32)), .val (.int (3 : Int32)), .val (.int (1 : Int32)), .val (.ref tx), .val (.ref xp), .val (.int (iN 32)), .val (.ref a), .val (.int (1 : Int32))] rfl ?_
      refine g_iload P467 d0_468 rfl ?_
      exact g_retZ P467 d0_470 (by decide) (by decide) (by decide) rfl
  refine g_iloadN P0 d0_0 rfl ?_
  refine g_iconst (v := (3 : Int32)) P0 d0_1 (by rfl) ?_
  refine g_iand (v := (p1 &&& (3 : Int32))) P0 d0_2 rfl ?_
  rcases m3 p1 with hk | hk | hk | hk
  · rw [hk]
    refine g_ifNo P0 d0_3 (by decide) ?_
    refine g_iconst (v := (3 : Int32)) P0 d0_6 (by rfl) ?_
    refine g_goto P0 d0_7 13 (by decide) (by decide) ?_
    refine g_istore P0 d0_13 #[.val (.int p1), .val (.int p2), .val (.int p3), .val (.int p4), .val (.int (3 : Int32)), .unset, .unset, .unset, .unset, .unset, .unset, .unset] rfl ?_
    refine g_iloadN P0 d0_15 rfl ?_
    refine g_bipush (v := (11 : Int32)) P0 d0_16 (by rfl) ?_
    refine g_iushr (v := (XT.ushr p1 (11 : Int32))) P0 d0_18 rfl ?_
    refine g_iconst (v := (3 : Int32)) P0 d0_19 (by rfl) ?_
    refine g_iand (v := ((XT.ushr p1 (11 : Int32)) &&& (3 : Int32))) P0 d0_20 rfl ?_
    have ht := m3 (XT.ushr p1 (11 : Int32))
    generalize ((XT.ushr p1 (11 : Int32)) &&& (3 : Int32)) = tv at ht ⊢
    rcases ht with rfl | rfl | rfl | rfl
    · refine g_istore P0 d0_21 #[.val (.int p1), .val (.int p2), .val (.int p3), .val (.int p4), .val (.int (3 : Int32)), .val (.int (0 : Int32)), .unset, .unset, .unset, .unset, .unset, .unset] rfl ?_
      refine g_iload P0 d0_23 rfl ?_
      refine g_iconst (v := (2 : Int32)) P0 d0_25 (by rfl) ?_
      refine g_icmpYes P0 d0_26 (by decide) 33 (by decide) (by decide) ?_
      refine g_iconst (v := (0 : Int32)) P0 d0_33 (by rfl) ?_
      refine g_istore P0 d0_34 #[.val (.int p1), .val (.int p2), .val (.int p3), .val (.int p4), .val (.int (3 : Int32)), .val (.int (0 : Int32)), .val (.int (0 : Int32)), .unset, .unset, .unset, .unset, .unset] rfl ?_
      exact J 3 0 0 (by decide) (by decide)
    · refine g_istore P0 d0_21 #[.val (.int p1), .val (.int p2), .val (.int p3), .val (.int p4), .val (.int (3 : Int32)), .val (.int (1 : Int32)), .unset, .unset, .unset, .unset, .unset, .unset] rfl ?_
      refine g_iload P0 d0_23 rfl ?_
      refine g_iconst (v := (2 : Int32)) P0 d0_25 (by rfl) ?_
      refine g_icmpYes P0 d0_26 (by decide) 33 (by decide) (by decide) ?_
      refine g_iconst (v := (0 : Int32)) P0 d0_33 (by rfl) ?_
      refine g_istore P0 d0_34 #[.val (.int p1), .val (.int p2), .val (.int p3), .val (.int p4), .val (.int (3 : Int32)), .val (.int (1 : Int32)), .val (.int (0 : Int32)), .unset, .unset, .unset, .unset, .unset] rfl ?_
      exact J 3 1 0 (by decide) (by decide)
    · refine g_istore P0 d0_21 #[.val (.int p1), .val (.int p2), .val (.int p3), .val (.int p4), .val (.int (3 : Int32)), .val (.int (2 : Int32)), .unset, .unset, .unset, .unset, .unset, .unset] rfl ?_
      refine g_iload P0 d0_23 rfl ?_
      refine g_iconst (v := (2 : Int32)) P0 d0_25 (by rfl) ?_
      refine g_icmpNo P0 d0_26 (by decide) ?_
      refine g_iconst (v := (1 : Int32)) P0 d0_29 (by rfl) ?_
      refine g_goto P0 d0_30 34 (by decide) (by decide) ?_
      refine g_istore P0 d0_34 #[.val (.int p1), .val (.int p2), .val (.int p3), .val (.int p4), .val (.int (3 : Int32)), .val (.int (2 : Int32)), .val (.int (1 : Int32)), .unset, .unset, .unset, .unset, .unset] rfl ?_
      exact J 3 2 1 (by decide) (by decide)
    · refine g_istore P0 d0_21 #[.val (.int p1), .val (.int p2), .val (.int p3), .val (.int p4), .val (.int (3 : Int32)), .val (.int (3 : Int32)), .unset, .unset, .unset, .unset, .unset, .unset] rfl ?_
      refine g_iload P0 d0_23 rfl ?_
      refine g_iconst (v := (2 : Int32)) P0 d0_25 (by rfl) ?_
      refine g_icmpNo P0 d0_26 (by decide) ?_
      refine g_iconst (v := (1 : Int32)) P0 d0_29 (by rfl) ?_
      refine g_goto P0 d0_30 34 (by decide) (by decide) ?_
      refine g_istore P0 d0_34 #[.val (.int p1), .val (.int p2), .val (.int p3), .val (.int p4), .val (.int (3 : Int32)), .val (.int (3 : Int32)), .val (.int (1 : Int32)), .unset, .unset, .unset, .unset, .unset] rfl ?_
      exact J 3 3 1 (by decide) (by decide)
  · rw [hk]
    refine g_ifYes P0 d0_3 (by decide) 10 (by decide) (by decide) ?_
    refine g_iloadN P0 d0_10 rfl ?_
    refine g_iconst (v := (3 : Int32)) P0 d0_11 (by rfl) ?_
    refine g_iand (v := (p1 &&& (3 : Int32))) P0 d0_12 rfl ?_
    rw [hk]
    refine g_istore P0 d0_13 #[.val (.int p1), .val (.int p2), .val (.int p3), .val (.int p4), .val (.int (1 : Int32)), .unset, .unset, .unset, .unset, .unset, .unset, .unset] rfl ?_
    refine g_iloadN P0 d0_15 rfl ?_
    refine g_bipush (v := (11 : Int32)) P0 d0_16 (by rfl) ?_
    refine g_iushr (v := (XT.ushr p1 (11 : Int32))) P0 d0_18 rfl ?_
    refine g_iconst (v := (3 : Int32)) P0 d0_19 (by rfl) ?_
    refine g_iand (v := ((XT.ushr p1 (11 : Int32)) &&& (3 : Int32))) P0 d0_20 rfl ?_
    have ht := m3 (XT.ushr p1 (11 : Int32))
    generalize ((XT.ushr p1 (11 : Int32)) &&& (3 : Int32)) = tv at ht ⊢
    rcases ht with rfl | rfl | rfl | rfl
    · refine g_istore P0 d0_21 #[.val (.int p1), .val (.int p2), .val (.int p3), .val (.int p4), .val (.int (1 : Int32)), .val (.int (0 : Int32)), .unset, .unset, .unset, .unset, .unset, .unset] rfl ?_
      refine g_iload P0 d0_23 rfl ?_
      refine g_iconst (v := (2 : Int32)) P0 d0_25 (by rfl) ?_
      refine g_icmpYes P0 d0_26 (by decide) 33 (by decide) (by decide) ?_
      refine g_iconst (v := (0 : Int32)) P0 d0_33 (by rfl) ?_
      refine g_istore P0 d0_34 #[.val (.int p1), .val (.int p2), .val (.int p3), .val (.int p4), .val (.int (1 : Int32)), .val (.int (0 : Int32)), .val (.int (0 : Int32)), .unset, .unset, .unset, .unset, .unset] rfl ?_
      exact J 1 0 0 (by decide) (by decide)
    · refine g_istore P0 d0_21 #[.val (.int p1), .val (.int p2), .val (.int p3), .val (.int p4), .val (.int (1 : Int32)), .val (.int (1 : Int32)), .unset, .unset, .unset, .unset, .unset, .unset] rfl ?_
      refine g_iload P0 d0_23 rfl ?_
      refine g_iconst (v := (2 : Int32)) P0 d0_25 (by rfl) ?_
      refine g_icmpYes P0 d0_26 (by decide) 33 (by decide) (by decide) ?_
      refine g_iconst (v := (0 : Int32)) P0 d0_33 (by rfl) ?_
      refine g_istore P0 d0_34 #[.val (.int p1), .val (.int p2), .val (.int p3), .val (.int p4), .val (.int (1 : Int32)), .val (.int (1 : Int32)), .val (.int (0 : Int32)), .unset, .unset, .unset, .unset, .unset] rfl ?_
      exact J 1 1 0 (by decide) (by decide)
    · refine g_istore P0 d0_21 #[.val (.int p1), .val (.int p2), .val (.int p3), .val (.int p4), .val (.int (1 : Int32)), .val (.int (2 : Int32)), .unset, .unset, .unset, .unset, .unset, .unset] rfl ?_
      refine g_iload P0 d0_23 rfl ?_
      refine g_iconst (v := (2 : Int32)) P0 d0_25 (by rfl) ?_
      refine g_icmpNo P0 d0_26 (by decide) ?_
      refine g_iconst (v := (1 : Int32)) P0 d0_29 (by rfl) ?_
      refine g_goto P0 d0_30 34 (by decide) (by decide) ?_
      refine g_istore P0 d0_34 #[.val (.int p1), .val (.int p2), .val (.int p3), .val (.int p4), .val (.int (1 : Int32)), .val (.int (2 : Int32)), .val (.int (1 : Int32)), .unset, .unset, .unset, .unset, .unset] rfl ?_
      exact J 1 2 1 (by decide) (by decide)
    · refine g_istore P0 d0_21 #[.val (.int p1), .val (.int p2), .val (.int p3), .val (.int p4), .val (.int (1 : Int32)), .val (.int (3 : Int32)), .unset, .unset, .unset, .unset, .unset, .unset] rfl ?_
      refine g_iload P0 d0_23 rfl ?_
      refine g_iconst (v := (2 : Int32)) P0 d0_25 (by rfl) ?_
      refine g_icmpNo P0 d0_26 (by decide) ?_
      refine g_iconst (v := (1 : Int32)) P0 d0_29 (by rfl) ?_
      refine g_goto P0 d0_30 34 (by decide) (by decide) ?_
      refine g_istore P0 d0_34 #[.val (.int p1), .val (.int p2), .val (.int p3), .val (.int p4), .val (.int (1 : Int32)), .val (.int (3 : Int32)), .val (.int (1 : Int32)), .unset, .unset, .unset, .unset, .unset] rfl ?_
      exact J 1 3 1 (by decide) (by decide)
  · rw [hk]
    refine g_ifYes P0 d0_3 (by decide) 10 (by decide) (by decide) ?_
    refine g_iloadN P0 d0_10 rfl ?_
    refine g_iconst (v := (3 : Int32)) P0 d0_11 (by rfl) ?_
    refine g_iand (v := (p1 &&& (3 : Int32))) P0 d0_12 rfl ?_
    rw [hk]
    refine g_istore P0 d0_13 #[.val (.int p1), .val (.int p2), .val (.int p3), .val (.int p4), .val (.int (2 : Int32)), .unset, .unset, .unset, .unset, .unset, .unset, .unset] rfl ?_
    refine g_iloadN P0 d0_15 rfl ?_
    refine g_bipush (v := (11 : Int32)) P0 d0_16 (by rfl) ?_
    refine g_iushr (v := (XT.ushr p1 (11 : Int32))) P0 d0_18 rfl ?_
    refine g_iconst (v := (3 : Int32)) P0 d0_19 (by rfl) ?_
    refine g_iand (v := ((XT.ushr p1 (11 : Int32)) &&& (3 : Int32))) P0 d0_20 rfl ?_
    have ht := m3 (XT.ushr p1 (11 : Int32))
    generalize ((XT.ushr p1 (11 : Int32)) &&& (3 : Int32)) = tv at ht ⊢
    rcases ht with rfl | rfl | rfl | rfl
    · refine g_istore P0 d0_21 #[.val (.int p1), .val (.int p2), .val (.int p3), .val (.int p4), .val (.int (2 : Int32)), .val (.int (0 : Int32)), .unset, .unset, .unset, .unset, .unset, .unset] rfl ?_
      refine g_iload P0 d0_23 rfl ?_
      refine g_iconst (v := (2 : Int32)) P0 d0_25 (by rfl) ?_
      refine g_icmpYes P0 d0_26 (by decide) 33 (by decide) (by decide) ?_
      refine g_iconst (v := (0 : Int32)) P0 d0_33 (by rfl) ?_
      refine g_istore P0 d0_34 #[.val (.int p1), .val (.int p2), .val (.int p3), .val (.int p4), .val (.int (2 : Int32)), .val (.int (0 : Int32)), .val (.int (0 : Int32)), .unset, .unset, .unset, .unset, .unset] rfl ?_
      exact J 2 0 0 (by decide) (by decide)
    · refine g_istore P0 d0_21 #[.val (.int p1), .val (.int p2), .val (.int p3), .val (.int p4), .val (.int (2 : Int32)), .val (.int (1 : Int32)), .unset, .unset, .unset, .unset, .unset, .unset] rfl ?_
      refine g_iload P0 d0_23 rfl ?_
      refine g_iconst (v := (2 : Int32)) P0 d0_25 (by rfl) ?_
      refine g_icmpYes P0 d0_26 (by decide) 33 (by decide) (by decide) ?_
      refine g_iconst (v := (0 : Int32)) P0 d0_33 (by rfl) ?_
      refine g_istore P0 d0_34 #[.val (.int p1), .val (.int p2), .val (.int p3), .val (.int p4), .val (.int (2 : Int32)), .val (.int (1 : Int32)), .val (.int (0 : Int32)), .unset, .unset, .unset, .unset, .unset] rfl ?_
      exact J 2 1 0 (by decide) (by decide)
    · refine g_istore P0 d0_21 #[.val (.int p1), .val (.int p2), .val (.int p3), .val (.int p4), .val (.int (2 : Int32)), .val (.int (2 : Int32)), .unset, .unset, .unset, .unset, .unset, .unset] rfl ?_
      refine g_iload P0 d0_23 rfl ?_
      refine g_iconst (v := (2 : Int32)) P0 d0_25 (by rfl) ?_
      refine g_icmpNo P0 d0_26 (by decide) ?_
      refine g_iconst (v := (1 : Int32)) P0 d0_29 (by rfl) ?_
      refine g_goto P0 d0_30 34 (by decide) (by decide) ?_
      refine g_istore P0 d0_34 #[.val (.int p1), .val (.int p2), .val (.int p3), .val (.int p4), .val (.int (2 : Int32)), .val (.int (2 : Int32)), .val (.int (1 : Int32)), .unset, .unset, .unset, .unset, .unset] rfl ?_
      exact J 2 2 1 (by decide) (by decide)
    · refine g_istore P0 d0_21 #[.val (.int p1), .val (.int p2), .val (.int p3), .val (.int p4), .val (.int (2 : Int32)), .val (.int (3 : Int32)), .unset, .unset, .unset, .unset, .unset, .unset] rfl ?_
      refine g_iload P0 d0_23 rfl ?_
      refine g_iconst (v := (2 : Int32)) P0 d0_25 (by rfl) ?_
      refine g_icmpNo P0 d0_26 (by decide) ?_
      refine g_iconst (v := (1 : Int32)) P0 d0_29 (by rfl) ?_
      refine g_goto P0 d0_30 34 (by decide) (by decide) ?_
      refine g_istore P0 d0_34 #[.val (.int p1), .val (.int p2), .val (.int p3), .val (.int p4), .val (.int (2 : Int32)), .val (.int (3 : Int32)), .val (.int (1 : Int32)), .unset, .unset, .unset, .unset, .unset] rfl ?_
      exact J 2 3 1 (by decide) (by decide)
  · rw [hk]
    refine g_ifYes P0 d0_3 (by decide) 10 (by decide) (by decide) ?_
    refine g_iloadN P0 d0_10 rfl ?_
    refine g_iconst (v := (3 : Int32)) P0 d0_11 (by rfl) ?_
    refine g_iand (v := (p1 &&& (3 : Int32))) P0 d0_12 rfl ?_
    rw [hk]
    refine g_istore P0 d0_13 #[.val (.int p1), .val (.int p2), .val (.int p3), .val (.int p4), .val (.int (3 : Int32)), .unset, .unset, .unset, .unset, .unset, .unset, .unset] rfl ?_
    refine g_iloadN P0 d0_15 rfl ?_
    refine g_bipush (v := (11 : Int32)) P0 d0_16 (by rfl) ?_
    refine g_iushr (v := (XT.ushr p1 (11 : Int32))) P0 d0_18 rfl ?_
    refine g_iconst (v := (3 : Int32)) P0 d0_19 (by rfl) ?_
    refine g_iand (v := ((XT.ushr p1 (11 : Int32)) &&& (3 : Int32))) P0 d0_20 rfl ?_
    have ht := m3 (XT.ushr p1 (11 : Int32))
    generalize ((XT.ushr p1 (11 : Int32)) &&& (3 : Int32)) = tv at ht ⊢
    rcases ht with rfl | rfl | rfl | rfl
    · refine g_istore P0 d0_21 #[.val (.int p1), .val (.int p2), .val (.int p3), .val (.int p4), .val (.int (3 : Int32)), .val (.int (0 : Int32)), .unset, .unset, .unset, .unset, .unset, .unset] rfl ?_
      refine g_iload P0 d0_23 rfl ?_
      refine g_iconst (v := (2 : Int32)) P0 d0_25 (by rfl) ?_
      refine g_icmpYes P0 d0_26 (by decide) 33 (by decide) (by decide) ?_
      refine g_iconst (v := (0 : Int32)) P0 d0_33 (by rfl) ?_
      refine g_istore P0 d0_34 #[.val (.int p1), .val (.int p2), .val (.int p3), .val (.int p4), .val (.int (3 : Int32)), .val (.int (0 : Int32)), .val (.int (0 : Int32)), .unset, .unset, .unset, .unset, .unset] rfl ?_
      exact J 3 0 0 (by decide) (by decide)
    · refine g_istore P0 d0_21 #[.val (.int p1), .val (.int p2), .val (.int p3), .val (.int p4), .val (.int (3 : Int32)), .val (.int (1 : Int32)), .unset, .unset, .unset, .unset, .unset, .unset] rfl ?_
      refine g_iload P0 d0_23 rfl ?_
      refine g_iconst (v := (2 : Int32)) P0 d0_25 (by rfl) ?_
      refine g_icmpYes P0 d0_26 (by decide) 33 (by decide) (by decide) ?_
      refine g_iconst (v := (0 : Int32)) P0 d0_33 (by rfl) ?_
      refine g_istore P0 d0_34 #[.val (.int p1), .val (.int p2), .val (.int p3), .val (.int p4), .val (.int (3 : Int32)), .val (.int (1 : Int32)), .val (.int (0 : Int32)), .unset, .unset, .unset, .unset, .unset] rfl ?_
      exact J 3 1 0 (by decide) (by decide)
    · refine g_istore P0 d0_21 #[.val (.int p1), .val (.int p2), .val (.int p3), .val (.int p4), .val (.int (3 : Int32)), .val (.int (2 : Int32)), .unset, .unset, .unset, .unset, .unset, .unset] rfl ?_
      refine g_iload P0 d0_23 rfl ?_
      refine g_iconst (v := (2 : Int32)) P0 d0_25 (by rfl) ?_
      refine g_icmpNo P0 d0_26 (by decide) ?_
      refine g_iconst (v := (1 : Int32)) P0 d0_29 (by rfl) ?_
      refine g_goto P0 d0_30 34 (by decide) (by decide) ?_
      refine g_istore P0 d0_34 #[.val (.int p1), .val (.int p2), .val (.int p3), .val (.int p4), .val (.int (3 : Int32)), .val (.int (2 : Int32)), .val (.int (1 : Int32)), .unset, .unset, .unset, .unset, .unset] rfl ?_
      exact J 3 2 1 (by decide) (by decide)
    · refine g_istore P0 d0_21 #[.val (.int p1), .val (.int p2), .val (.int p3), .val (.int p4), .val (.int (3 : Int32)), .val (.int (3 : Int32)), .unset, .unset, .unset, .unset, .unset, .unset] rfl ?_
      refine g_iload P0 d0_23 rfl ?_
      refine g_iconst (v := (2 : Int32)) P0 d0_25 (by rfl) ?_
      refine g_icmpNo P0 d0_26 (by decide) ?_
      refine g_iconst (v := (1 : Int32)) P0 d0_29 (by rfl) ?_
      refine g_goto P0 d0_30 34 (by decide) (by decide) ?_
      refine g_istore P0 d0_34 #[.val (.int p1), .val (.int p2), .val (.int p3), .val (.int p4), .val (.int (3 : Int32)), .val (.int (3 : Int32)), .val (.int (1 : Int32)), .unset, .unset, .unset, .unset, .unset] rfl ?_
      exact J 3 3 1 (by decide) (by decide)
set_option maxRecDepth 65536 in
set_option maxHeartbeats 40000000 in
theorem comes_1 {Post : Tables → Env → Array Value → State → Outcome → State → Prop} (hpost : ∀ tb e args s v u, (limb_1_1.after args s (.returned v) u = true ∧ limb_1_2.after args s (.returned v) u = true ∧ True) → FrameEnd s (.returned v) u (Jvm.fieldLocs frame_1_writes args s ++ Jvm.arrayLocs frame_1_arrays args s ++ Jvm.staticLocs frame_1_statics s) 24 576 → Post tb e args s (.returned v) u) :
    ArmFor flags0 classFile x code maxLocals ret World_1 tables_1 room_1 Calls_1 rest_1 Pre_1 Post := by
  intro l hfl _ _ p e ha hc hk s m args below hf hA hF happ hP
  obtain ⟨hcalls, hrest, hpre⟩ := hP
  obtain ⟨-, -, -, hnamed, -, -, -, hat⟩ := (Spec.applies_iff hf).mp happ
  obtain ⟨hg, hn⟩ := and_e (Cond.before_iff.mp (show (Jvm.Cond.and given_1 narrow_1).before args s = true from hpre))
  obtain ⟨g0, g1⟩ := and_e hg
  obtain ⟨u0, g2⟩ := and_e g1
  obtain ⟨u1, g3⟩ := and_e g2
  obtain ⟨u2, g4⟩ := and_e g3
  obtain ⟨w0, w1, w2, w3, rfl⟩ : ∃ w0 w1 w2 w3 : Value, args = #[w0, w1, w2, w3] := by
    have hs : args.size = 4 := by simpa [Cond.value, given_1] using g0
    obtain ⟨L⟩ := args
    match L, hs with
    | [w0, w1, w2, w3], _ => exact ⟨w0, w1, w2, w3, rfl⟩
  have hw := fun d (hd : d ∈ tables_1) => atoms_spec (ws := Jvm.Cond.code x code maxLocals ret :: tables_1) hat d (List.mem_cons_of_mem _ hd)
  have hfit : Fit s := fun {y c} hc i hi => by
    obtain ⟨ha, rfl⟩ := Array.getElem?_eq_some_iff.mp hc
    have q := List.all_eq_true.mp ((Array.all_eq_true_iff_forall_mem.mp hF) _ (Array.getElem_mem ha)) i (List.mem_range.mpr hi)
    simpa [Array.getElem?_eq_getElem hi] using q
  obtain ⟨i0, e0⟩ := is_v u0
  obtain rfl : w0 = (.int i0) := Option.some.inj e0
  obtain ⟨i1, e1⟩ := is_v u1
  obtain rfl : w1 = (.int i1) := Option.some.inj e1
  obtain ⟨i2, e2⟩ := is_v u2
  obtain rfl : w2 = (.int i2) := Option.some.inj e2
  obtain ⟨i3, e3⟩ := is_v g4
  obtain rfl : w3 = (.int i3) := Option.some.inj e3
  obtain ⟨k0, r0⟩ := and_e hn
  obtain ⟨k1, r1⟩ := and_e r0
  obtain ⟨k2, r2⟩ := and_e r1
  obtain ⟨k3, k4⟩ := and_e r2
  obtain ⟨a_BYTE_ORDER_MARK, ev_BYTE_ORDER_MARK⟩ := arr_v k0
  have S_BYTE_ORDER_MARK : Sta s s.heap "com/example/lintel/lintel/io/CsvReader" "BYTE_ORDER_MARK" "[B" (.ref a_BYTE_ORDER_MARK) := Sta.start ev_BYTE_ORDER_MARK (Or.inr ⟨(hw _ (List.mem_of_getElem? (i := 8) rfl)), (hw _ (List.mem_of_getElem? (i := 27) rfl))⟩)
  obtain ⟨c_BYTE_ORDER_MARK, R_BYTE_ORDER_MARK⟩ := Arr.start ev_BYTE_ORDER_MARK k0
  obtain ⟨AM, lb⟩ := al_start ev_BYTE_ORDER_MARK R_BYTE_ORDER_MARK (eqI k1)
  have gm := elem_start ev_BYTE_ORDER_MARK R_BYTE_ORDER_MARK (eqI k2)
  obtain ⟨n, o, h1, h2, h3, _, L, rfl, ⟨N, rfl⟩, hq⟩ := (rm_law l s _ hw s.heap s.heap.size a_BYTE_ORDER_MARK _ _ i0 i1 i2 i3 (Nat.le_refl _) S_BYTE_ORDER_MARK AM lb gm) tables_1 p e ha hc hk s m _ below hf ((Spec.applies_iff_loose hf).mp happ).1 ⟨rfl, State.Warmed39.refl s, rfl⟩ trivial
  refine ⟨n, _, h1, h2, h3, hpost _ _ _ _ _ _ ⟨Cond.after_iff.mpr rfl, Cond.after_iff.mpr (eq_i res_at (Term.int_eval (1)) rfl), trivial⟩ ⟨hq.1, hq.2.1, (hq.2.2.sift fun y hy => Or.inr (N y hy)).mono (by decide) (by decide)⟩⟩
theorem main_1_1 : Claimed_1_1 := comes_1 fun _ _ _ _ _ _ h hF => ⟨h.1, hF⟩
theorem main_1_2 : Claimed_1_2 := comes_1 fun _ _ _ _ _ _ h hF => ⟨h.2.1, hF⟩
end Jvm.Pilot.@@N@@
namespace Jvm.Pilot.@@N@@
open Jvm Jvm.ClassFile Sem Op Lib Jvm.Free Jvm.Stand Jvm.Pilot.@@N@@.Jvm.D
/-! MADE BY PROGRAM (witnessworld.py) out of the Statement's table words and the real class files: 14 classes; the members and pool entries that the words name. The judged class is class 1, her method 3. -/
namespace start1
open Jvm.ClassFile
def u (s : String) : CpInfo := .utf8 (stringToUtf16 s)
/-- a pool by its gaps: so many unusable entries, then the entry; so many at the end -/
def gap : Nat → List CpInfo → List CpInfo
  | 0, r => r
  | n + 1, r => .unusable :: gap n r
def poolList (es : List (Nat × CpInfo)) (last : Nat) : List CpInfo := es.foldr (fun e r => gap e.1 (e.2 :: r)) (gap last [])
def pool (es : List (Nat × CpInfo)) (last : Nat) : Array CpInfo := ⟨poolList es last⟩
def fileOf (pool : Array CpInfo) (this : Nat) (attrs : Array Attribute := #[]) (ms : Array MethodInfo := #[]) (fl : Nat := 33) (sup : Nat := 0) (ifs : Array Nat := #[]) (fds : Array FieldInfo := #[]) : ClassFile where
  minorVersion := 0
  majorVersion := 65
  constantPool := pool
  accessFlags := fl
  thisClass := this
  superClass := sup
  interfaces := ifs
  fields := fds
  methods := ms
  attributes := attrs
def plain (name : String) (sup : Option ClassId) : Class where
  name := name
  kind := .ordinary
  loader := none
  accessFlags := 33
  super := sup
  interfaces := #[]
  cf := none
  fields := #[]
  methods := #[]
  instanceTypes := #[]
  staticTypes := #[]
  resolved := #[]
  callSites := []
  init := .initialized
  statics := none
  mirror := none

def pool0 : Array CpInfo := pool [(5, u "<init>"), (0, u "()V"), (1, .class_ 10), (1, u "java/lang/Object")] 113

def k0c0 : Code := { maxStack := 0, maxLocals := 1, code := object_method_1_code, exceptionTable := #[], attributes := #[] }
def k0m0 : Method := { name := "<init>", desc := "()V", sig := { parameters := [], returnType := none }, accessFlags := 1, code := some k0c0 }
/-- java/lang/Object -/
def k0 : Class := { plain "java/lang/Object" none with
  accessFlags := 33
  interfaces := #[]
  cf := some (fileOf pool0 8 #[] #[{ accessFlags := 1, nameIndex := 5, descriptorIndex := 6, attributes := #[] }] 33 0 #[] #[])
  fields := #[]
  methods := #[k0m0]
  instanceTypes := #[]
  staticTypes := #[]
  resolved := Array.replicate 124 none
  statics := none }

def pool1 : Array CpInfo := pool [(2, .class_ 4), (1, u "java/lang/Object"), (0, u "<init>"), (0, u "()V"), (0, .methodref 8 9), (0, .class_ 10), (0, .nameAndType 11 12), (0, u "com/example/lintel/lintel/io/CsvReaderLengthPinLaw"), (0, u "put"), (0, u "([BIIZZ)I"), (0, .methodref 8 14), (0, .nameAndType 15 16), (0, u "field"), (0, u "([BI[IIIIIZ)I"), (0, .class_ 18), (0, u "com/example/lintel/lintel/io/CsvReader"), (0, .methodref 17 20), (0, .nameAndType 5 21), (0, u "([B)V"), (0, .methodref 17 23), (0, .nameAndType 24 25), (0, u "next"), (0, u "()Z"), (0, .methodref 17 27), (0, .nameAndType 28 29), (0, u "size"), (0, u "()I"), (0, .methodref 17 31), (0, .nameAndType 32 33), (0, u "length"), (0, u "(I)I"), (7, u "law"), (0, u "(IIII)Z")] 5

def k1m0 : Method := { name := "<init>", desc := "()V", sig := { parameters := [], returnType := none }, accessFlags := 2, code := none }
def k1c1 : Code := { maxStack := 3, maxLocals := 6, code := method_2_code, exceptionTable := #[], attributes := #[] }
def k1m1 : Method := { name := "put", desc := "([BIIZZ)I", sig := { parameters := [(.array .byte), .int, .int, .boolean, .boolean], returnType := some .int }, accessFlags := 10, code := some k1c1 }
def k1c2 : Code := { maxStack := 6, maxLocals := 13, code := method_3_code, exceptionTable := #[], attributes := #[] }
def k1m2 : Method := { name := "field", desc := "([BI[IIIIIZ)I", sig := { parameters := [(.array .byte), .int, (.array .int), .int, .int, .int, .int, .boolean], returnType := some .int }, accessFlags := 10, code := some k1c2 }
def k1c3 : Code := { maxStack := 8, maxLocals := 12, code := code, exceptionTable := #[], attributes := #[] }
def k1m3 : Method := { name := "law", desc := "(IIII)Z", sig := { parameters := [.int, .int, .int, .int], returnType := some .boolean }, accessFlags := 9, code := some k1c3 }
/-- com/example/lintel/lintel/io/CsvReaderLengthPinLaw -/
def k1 : Class := { plain "com/example/lintel/lintel/io/CsvReaderLengthPinLaw" (some 0) with
  accessFlags := 49
  interfaces := #[]
  cf := some (fileOf pool1 8 #[] #[{ accessFlags := 2, nameIndex := 5, descriptorIndex := 6, attributes := #[] }, { accessFlags := 10, nameIndex := 11, descriptorIndex := 12, attributes := #[] }, { accessFlags := 10, nameIndex := 15, descriptorIndex := 16, attributes := #[] }, { accessFlags := 9, nameIndex := 41, descriptorIndex := 42, attributes := #[] }] 49 2 #[] #[])
  fields := #[]
  methods := #[k1m0, k1m1, k1m2, k1m3]
  instanceTypes := #[]
  staticTypes := #[]
  resolved := Array.replicate 48 none
  statics := none }

def pool2 : Array CpInfo := pool [(1, .methodref 2 3), (0, .class_ 4), (0, .nameAndType 5 6), (0, u "java/lang/Object"), (0, u "<init>"), (0, u "()V"), (0, .class_ 8), (0, u "com/example/lintel/lintel/io/CsvReader"), (0, .fieldref 7 10), (0, .nameAndType 11 12), (0, u "starts"), (0, u "[I"), (0, .fieldref 7 14), (0, .nameAndType 15 12), (0, u "ends"), (0, .fieldref 7 17), (0, .nameAndType 18 19), (0, u "doubledQuotes"), (0, u "[Z"), (0, .fieldref 7 21), (0, .nameAndType 22 23), (0, u "text"), (0, u "[B"), (0, .fieldref 7 25), (0, .nameAndType 26 27), (0, u "length"), (0, u "I"), (0, .fieldref 7 29), (0, .nameAndType 30 23), (0, u "BYTE_ORDER_MARK"), (0, .methodref 32 33), (0, .class_ 34), (0, .nameAndType 35 36), (0, u "java/lang/Math"), (0, u "min"), (0, u "(II)I"), (0, .methodref 38 39), (0, .class_ 40), (0, .nameAndType 41 42), (0, u "java/util/Arrays"), (0, u "equals"), (0, u "([BII[BII)Z"), (0, .fieldref 7 44), (0, .nameAndType 45 27), (0, u "at"), (0, .fieldref 7 47), (0, .nameAndType 48 27), (0, u "row"), (0, .fieldref 7 50), (0, .nameAndType 51 27), (0, u "size"), (7, .methodref 7 60), (0, .nameAndType 61 6), (0, u "quoted"), (0, .methodref 7 63), (0, .nameAndType 64 6), (0, u "plain"), (0, .methodref 7 66), (0, .nameAndType 67 68), (0, u "lineBreakLength"), (0, u "()I"), (6, .fieldref 7 76), (0, .nameAndType 77 27), (0, u "bytesOr"), (0, .fieldref 7 79), (0, .nameAndType 80 81), (0, u "checkedUtf8"), (0, u "Z"), (53, .methodref 7 136), (0, .nameAndType 137 138), (0, u "quoteAt"), (0, u "(I)I"), (2, .methodref 7 142), (0, .nameAndType 143 138), (0, u "plainEnd"), (2, u "SEPARATOR"), (0, u "B"), (2, u "QUOTE"), (1, u "CARRIAGE_RETURN"), (1, u "LINE_FEED"), (1, u "QUOTED_QUOTE"), (0, u "Ljava/lang/String;"), (0, u "FIELDS_AT_FIRST"), (1, u "([B)V"), (4, u "next"), (0, u "()Z")] 25

def k2c0 : Code := { maxStack := 7, maxLocals := 2, code := prog_1_method_1_code, exceptionTable := #[], attributes := #[] }
def k2m0 : Method := { name := "<init>", desc := "([B)V", sig := { parameters := [(.array .byte)], returnType := none }, accessFlags := 0, code := some k2c0 }
def k2c1 : Code := { maxStack := 4, maxLocals := 2, code := prog_1_method_2_code, exceptionTable := #[], attributes := #[] }
def k2m1 : Method := { name := "next", desc := "()Z", sig := { parameters := [], returnType := some .boolean }, accessFlags := 0, code := some k2c1 }
def k2c2 : Code := { maxStack := 1, maxLocals := 1, code := prog_1_method_4_code, exceptionTable := #[], attributes := #[] }
def k2m2 : Method := { name := "size", desc := "()I", sig := { parameters := [], returnType := some .int }, accessFlags := 0, code := some k2c2 }
def k2c3 : Code := { maxStack := 3, maxLocals := 2, code := prog_1_method_6_code, exceptionTable := #[], attributes := #[] }
def k2m3 : Method := { name := "length", desc := "(I)I", sig := { parameters := [.int], returnType := some .int }, accessFlags := 0, code := some k2c3 }
def k2c4 : Code := { maxStack := 4, maxLocals := 2, code := prog_1_method_10_code, exceptionTable := #[], attributes := #[] }
def k2m4 : Method := { name := "quoted", desc := "()V", sig := { parameters := [], returnType := none }, accessFlags := 2, code := some k2c4 }
def k2c5 : Code := { maxStack := 3, maxLocals := 2, code := prog_1_method_11_code, exceptionTable := #[], attributes := #[] }
def k2m5 : Method := { name := "plain", desc := "()V", sig := { parameters := [], returnType := none }, accessFlags := 2, code := some k2c5 }
def k2c6 : Code := { maxStack := 3, maxLocals := 7, code := prog_1_method_12_code, exceptionTable := #[], attributes := #[] }
def k2m6 : Method := { name := "plainEnd", desc := "(I)I", sig := { parameters := [.int], returnType := some .int }, accessFlags := 2, code := some k2c6 }
def k2c7 : Code := { maxStack := 3, maxLocals := 6, code := prog_1_method_13_code, exceptionTable := #[], attributes := #[] }
def k2m7 : Method := { name := "quoteAt", desc := "(I)I", sig := { parameters := [.int], returnType := some .int }, accessFlags := 2, code := some k2c7 }
def k2c8 : Code := { maxStack := 3, maxLocals := 2, code := prog_1_method_14_code, exceptionTable := #[], attributes := #[] }
def k2m8 : Method := { name := "lineBreakLength", desc := "()I", sig := { parameters := [], returnType := some .int }, accessFlags := 2, code := some k2c8 }
/-- com/example/lintel/lintel/io/CsvReader -/
def k2 : Class := { plain "com/example/lintel/lintel/io/CsvReader" (some 0) with
  accessFlags := 32
  interfaces := #[]
  cf := some (fileOf pool2 7 #[] #[{ accessFlags := 0, nameIndex := 5, descriptorIndex := 160, attributes := #[] }, { accessFlags := 0, nameIndex := 165, descriptorIndex := 166, attributes := #[] }, { accessFlags := 0, nameIndex := 51, descriptorIndex := 68, attributes := #[] }, { accessFlags := 0, nameIndex := 26, descriptorIndex := 138, attributes := #[] }, { accessFlags := 2, nameIndex := 61, descriptorIndex := 6, attributes := #[] }, { accessFlags := 2, nameIndex := 64, descriptorIndex := 6, attributes := #[] }, { accessFlags := 2, nameIndex := 143, descriptorIndex := 138, attributes := #[] }, { accessFlags := 2, nameIndex := 137, descriptorIndex := 138, attributes := #[] }, { accessFlags := 2, nameIndex := 67, descriptorIndex := 68, attributes := #[] }] 32 2 #[] #[{ accessFlags := 26, nameIndex := 146, descriptorIndex := 147, attributes := #[] }, { accessFlags := 26, nameIndex := 150, descriptorIndex := 147, attributes := #[] }, { accessFlags := 26, nameIndex := 152, descriptorIndex := 147, attributes := #[] }, { accessFlags := 26, nameIndex := 154, descriptorIndex := 147, attributes := #[] }, { accessFlags := 26, nameIndex := 156, descriptorIndex := 157, attributes := #[] }, { accessFlags := 26, nameIndex := 30, descriptorIndex := 23, attributes := #[] }, { accessFlags := 26, nameIndex := 158, descriptorIndex := 27, attributes := #[] }, { accessFlags := 18, nameIndex := 22, descriptorIndex := 23, attributes := #[] }, { accessFlags := 18, nameIndex := 26, descriptorIndex := 27, attributes := #[] }, { accessFlags := 2, nameIndex := 45, descriptorIndex := 27, attributes := #[] }, { accessFlags := 2, nameIndex := 48, descriptorIndex := 27, attributes := #[] }, { accessFlags := 2, nameIndex := 77, descriptorIndex := 27, attributes := #[] }, { accessFlags := 2, nameIndex := 80, descriptorIndex := 81, attributes := #[] }, { accessFlags := 2, nameIndex := 11, descriptorIndex := 12, attributes := #[] }, { accessFlags := 2, nameIndex := 15, descriptorIndex := 12, attributes := #[] }, { accessFlags := 2, nameIndex := 18, descriptorIndex := 19, attributes := #[] }, { accessFlags := 2, nameIndex := 51, descriptorIndex := 27, attributes := #[] }])
  fields := #[{ name := "SEPARATOR", type := .byte, accessFlags := 26, slot := 0, constantValue := 0 }, { name := "QUOTE", type := .byte, accessFlags := 26, slot := 1, constantValue := 0 }, { name := "CARRIAGE_RETURN", type := .byte, accessFlags := 26, slot := 2, constantValue := 0 }, { name := "LINE_FEED", type := .byte, accessFlags := 26, slot := 3, constantValue := 0 }, { name := "QUOTED_QUOTE", type := (.object "java/lang/String"), accessFlags := 26, slot := 4, constantValue := 0 }, { name := "BYTE_ORDER_MARK", type := (.array .byte), accessFlags := 26, slot := 5, constantValue := 0 }, { name := "FIELDS_AT_FIRST", type := .int, accessFlags := 26, slot := 6, constantValue := 0 }, { name := "text", type := (.array .byte), accessFlags := 18, slot := 0, constantValue := 0 }, { name := "length", type := .int, accessFlags := 18, slot := 1, constantValue := 0 }, { name := "at", type := .int, accessFlags := 2, slot := 2, constantValue := 0 }, { name := "row", type := .int, accessFlags := 2, slot := 3, constantValue := 0 }, { name := "bytesOr", type := .int, accessFlags := 2, slot := 4, constantValue := 0 }, { name := "checkedUtf8", type := .boolean, accessFlags := 2, slot := 5, constantValue := 0 }, { name := "starts", type := (.array .int), accessFlags := 2, slot := 6, constantValue := 0 }, { name := "ends", type := (.array .int), accessFlags := 2, slot := 7, constantValue := 0 }, { name := "doubledQuotes", type := (.array .boolean), accessFlags := 2, slot := 8, constantValue := 0 }, { name := "size", type := .int, accessFlags := 2, slot := 9, constantValue := 0 }]
  methods := #[k2m0, k2m1, k2m2, k2m3, k2m4, k2m5, k2m6, k2m7, k2m8]
  instanceTypes := #[(.array .byte), .int, .int, .int, .int, .boolean, (.array .int), (.array .int), (.array .boolean), .int]
  staticTypes := #[.byte, .byte, .byte, .byte, (.object "java/lang/String"), (.array .byte), .int]
  resolved := Array.replicate 192 none
  statics := some 0 }

def pool3 : Array CpInfo := pool [(1, .class_ 2), (0, u "java/lang/Math"), (1, .class_ 6), (1, u "java/lang/Object"), (0, u "<init>"), (0, u "()V"), (89, .class_ 100), (1, u "java/lang/Math$RandomNumberGeneratorHolder"), (71, u "negativeZeroFloatBits"), (0, u "J"), (2, u "negativeZeroDoubleBits"), (24, u "min"), (43, u "$assertionsDisabled"), (0, u "Z"), (88, u "(II)I"), (2, u "twoToTheDoubleScaleDown"), (0, u "D"), (4, u "twoToTheDoubleScaleUp"), (9, u "E"), (3, u "PI"), (2, u "TAU"), (2, u "DEGREES_TO_RADIANS"), (0, u "RADIANS_TO_DEGREES")] 94

def k3m0 : Method := { name := "<init>", desc := "()V", sig := { parameters := [], returnType := none }, accessFlags := 2, code := none }
def k3c1 : Code := { maxStack := 2, maxLocals := 2, code := jdk_29_method_69_code, exceptionTable := #[], attributes := #[] }
def k3m1 : Method := { name := "min", desc := "(II)I", sig := { parameters := [.int, .int], returnType := some .int }, accessFlags := 9, code := some k3c1 }
/-- java/lang/Math -/
def k3 : Class := { plain "java/lang/Math" (some 0) with
  accessFlags := 49
  interfaces := #[]
  cf := some (fileOf pool3 1 #[.nestMembers #[98]] #[{ accessFlags := 2, nameIndex := 7, descriptorIndex := 8, attributes := #[] }, { accessFlags := 9, nameIndex := 201, descriptorIndex := 335, attributes := #[] }] 49 4 #[] #[{ accessFlags := 25, nameIndex := 354, descriptorIndex := 339, attributes := #[] }, { accessFlags := 25, nameIndex := 358, descriptorIndex := 339, attributes := #[] }, { accessFlags := 25, nameIndex := 361, descriptorIndex := 339, attributes := #[] }, { accessFlags := 26, nameIndex := 364, descriptorIndex := 339, attributes := #[] }, { accessFlags := 26, nameIndex := 365, descriptorIndex := 339, attributes := #[] }, { accessFlags := 26, nameIndex := 172, descriptorIndex := 173, attributes := #[] }, { accessFlags := 26, nameIndex := 176, descriptorIndex := 173, attributes := #[] }, { accessFlags := 8, nameIndex := 344, descriptorIndex := 339, attributes := #[] }, { accessFlags := 8, nameIndex := 338, descriptorIndex := 339, attributes := #[] }, { accessFlags := 4120, nameIndex := 245, descriptorIndex := 246, attributes := #[] }])
  fields := #[{ name := "E", type := .double, accessFlags := 25, slot := 0, constantValue := 0 }, { name := "PI", type := .double, accessFlags := 25, slot := 1, constantValue := 0 }, { name := "TAU", type := .double, accessFlags := 25, slot := 2, constantValue := 0 }, { name := "DEGREES_TO_RADIANS", type := .double, accessFlags := 26, slot := 3, constantValue := 0 }, { name := "RADIANS_TO_DEGREES", type := .double, accessFlags := 26, slot := 4, constantValue := 0 }, { name := "negativeZeroFloatBits", type := .long, accessFlags := 26, slot := 5, constantValue := 0 }, { name := "negativeZeroDoubleBits", type := .long, accessFlags := 26, slot := 6, constantValue := 0 }, { name := "twoToTheDoubleScaleUp", type := .double, accessFlags := 8, slot := 7, constantValue := 0 }, { name := "twoToTheDoubleScaleDown", type := .double, accessFlags := 8, slot := 8, constantValue := 0 }, { name := "$assertionsDisabled", type := .boolean, accessFlags := 4120, slot := 9, constantValue := 0 }]
  methods := #[k3m0, k3m1]
  instanceTypes := #[]
  staticTypes := #[.double, .double, .double, .double, .double, .long, .long, .double, .double, .boolean]
  resolved := Array.replicate 460 none
  statics := none }

def pool4 : Array CpInfo := pool [(2, .class_ 4), (1, u "java/lang/Object"), (0, u "<init>"), (0, u "()V"), (6, .methodref 14 15), (0, .class_ 16), (0, .nameAndType 17 18), (0, u "java/util/Arrays"), (0, u "rangeCheck"), (0, u "(III)V"), (55, .class_ 76), (1, u "java/util/Arrays$NaturalOrder"), (36, .class_ 115), (1, u "java/util/Arrays$LegacyMergeSort"), (1, u "Z"), (128, .class_ 248), (1, u "jdk/internal/util/ArraysSupport"), (0, u "mismatch"), (25, .methodref 246 276), (0, .nameAndType 249 277), (0, u "([BI[BII)I"), (20, u "equals"), (76, .class_ 376), (0, u "java/util/Arrays$ArrayList"), (68, u "$assertionsDisabled"), (269, u "MIN_ARRAY_SORT_GRAN"), (0, u "I"), (2, u "INSERTIONSORT_THRESHOLD"), (111, u "([BII[BII)Z"), (143, .class_ 976), (0, u "java/util/Arrays$ArrayItr")] 52

def k4m0 : Method := { name := "<init>", desc := "()V", sig := { parameters := [], returnType := none }, accessFlags := 2, code := none }
def k4c1 : Code := { maxStack := 4, maxLocals := 3, code := jdk_65_method_30_code, exceptionTable := #[], attributes := #[] }
def k4m1 : Method := { name := "rangeCheck", desc := "(III)V", sig := { parameters := [.int, .int, .int], returnType := none }, accessFlags := 8, code := some k4c1 }
def k4c2 : Code := { maxStack := 5, maxLocals := 8, code := jdk_65_method_90_code, exceptionTable := #[], attributes := #[] }
def k4m2 : Method := { name := "equals", desc := "([BII[BII)Z", sig := { parameters := [(.array .byte), .int, .int, (.array .byte), .int, .int], returnType := some .boolean }, accessFlags := 9, code := some k4c2 }
/-- java/util/Arrays -/
def k4 : Class := { plain "java/util/Arrays" (some 0) with
  accessFlags := 49
  interfaces := #[]
  cf := some (fileOf pool4 14 #[.nestMembers #[975, 375, 113, 74]] #[{ accessFlags := 2, nameIndex := 5, descriptorIndex := 6, attributes := #[] }, { accessFlags := 8, nameIndex := 17, descriptorIndex := 18, attributes := #[] }, { accessFlags := 9, nameIndex := 298, descriptorIndex := 831, attributes := #[] }] 49 2 #[] #[{ accessFlags := 26, nameIndex := 715, descriptorIndex := 716, attributes := #[] }, { accessFlags := 26, nameIndex := 719, descriptorIndex := 716, attributes := #[] }, { accessFlags := 4120, nameIndex := 445, descriptorIndex := 117, attributes := #[] }])
  fields := #[{ name := "MIN_ARRAY_SORT_GRAN", type := .int, accessFlags := 26, slot := 0, constantValue := 0 }, { name := "INSERTIONSORT_THRESHOLD", type := .int, accessFlags := 26, slot := 1, constantValue := 0 }, { name := "$assertionsDisabled", type := .boolean, accessFlags := 4120, slot := 2, constantValue := 0 }]
  methods := #[k4m0, k4m1, k4m2]
  instanceTypes := #[]
  staticTypes := #[.int, .int, .boolean]
  resolved := Array.replicate 1029 none
  statics := none }

def pool5 : Array CpInfo := pool [(9, u "<init>"), (6, .class_ 18), (1, u "java/lang/Object"), (0, u "()V"), (1, .class_ 23), (1, u "jdk/internal/util/ArraysSupport"), (0, u "LOG2_ARRAY_LONG_INDEX_SCALE"), (0, u "I"), (2, u "U"), (0, u "Ljdk/internal/misc/Unsafe;"), (8, u "BIG_ENDIAN"), (0, u "Z"), (8, u "LOG2_BYTE_BIT_SIZE"), (4, u "LOG2_ARRAY_INT_INDEX_SCALE"), (54, u "JLA"), (0, u "Ljdk/internal/access/JavaLangAccess;"), (11, u "LOG2_ARRAY_BOOLEAN_INDEX_SCALE"), (9, u "LOG2_ARRAY_BYTE_INDEX_SCALE"), (5, u "LOG2_ARRAY_CHAR_INDEX_SCALE"), (5, u "LOG2_ARRAY_SHORT_INDEX_SCALE"), (5, u "mismatch"), (12, u "LOG2_ARRAY_FLOAT_INDEX_SCALE"), (24, u "LOG2_ARRAY_DOUBLE_INDEX_SCALE"), (89, u "T_BOOLEAN"), (2, u "T_CHAR"), (1, u "T_FLOAT"), (1, u "T_DOUBLE"), (1, u "T_BYTE"), (1, u "T_SHORT"), (1, u "T_INT"), (1, u "T_LONG"), (1, u "SOFT_MAX_ARRAY_LENGTH"), (42, u "([BI[BII)I")] 40

def k5m0 : Method := { name := "<init>", desc := "()V", sig := { parameters := [], returnType := none }, accessFlags := 2, code := none }
def k5c1 : Code := { maxStack := 8, maxLocals := 8, code := jdk_48_method_14_code, exceptionTable := #[], attributes := #[] }
def k5m1 : Method := { name := "mismatch", desc := "([BI[BII)I", sig := { parameters := [(.array .byte), .int, (.array .byte), .int, .int], returnType := some .int }, accessFlags := 9, code := some k5c1 }
/-- jdk/internal/util/ArraysSupport -/
def k5 : Class := { plain "jdk/internal/util/ArraysSupport" (some 0) with
  accessFlags := 33
  interfaces := #[]
  cf := some (fileOf pool5 21 #[] #[{ accessFlags := 2, nameIndex := 9, descriptorIndex := 19, attributes := #[] }, { accessFlags := 9, nameIndex := 149, descriptorIndex := 337, attributes := #[] }] 33 16 #[] #[{ accessFlags := 24, nameIndex := 28, descriptorIndex := 29, attributes := #[] }, { accessFlags := 26, nameIndex := 38, descriptorIndex := 39, attributes := #[] }, { accessFlags := 25, nameIndex := 121, descriptorIndex := 25, attributes := #[] }, { accessFlags := 25, nameIndex := 131, descriptorIndex := 25, attributes := #[] }, { accessFlags := 25, nameIndex := 137, descriptorIndex := 25, attributes := #[] }, { accessFlags := 25, nameIndex := 143, descriptorIndex := 25, attributes := #[] }, { accessFlags := 25, nameIndex := 53, descriptorIndex := 25, attributes := #[] }, { accessFlags := 25, nameIndex := 24, descriptorIndex := 25, attributes := #[] }, { accessFlags := 25, nameIndex := 162, descriptorIndex := 25, attributes := #[] }, { accessFlags := 25, nameIndex := 187, descriptorIndex := 25, attributes := #[] }, { accessFlags := 26, nameIndex := 48, descriptorIndex := 25, attributes := #[] }, { accessFlags := 25, nameIndex := 277, descriptorIndex := 25, attributes := #[] }, { accessFlags := 25, nameIndex := 280, descriptorIndex := 25, attributes := #[] }, { accessFlags := 25, nameIndex := 282, descriptorIndex := 25, attributes := #[] }, { accessFlags := 25, nameIndex := 284, descriptorIndex := 25, attributes := #[] }, { accessFlags := 25, nameIndex := 286, descriptorIndex := 25, attributes := #[] }, { accessFlags := 25, nameIndex := 288, descriptorIndex := 25, attributes := #[] }, { accessFlags := 25, nameIndex := 290, descriptorIndex := 25, attributes := #[] }, { accessFlags := 25, nameIndex := 292, descriptorIndex := 25, attributes := #[] }, { accessFlags := 26, nameIndex := 108, descriptorIndex := 109, attributes := #[] }, { accessFlags := 25, nameIndex := 294, descriptorIndex := 25, attributes := #[] }])
  fields := #[{ name := "U", type := (.object "jdk/internal/misc/Unsafe"), accessFlags := 24, slot := 0, constantValue := 0 }, { name := "BIG_ENDIAN", type := .boolean, accessFlags := 26, slot := 1, constantValue := 0 }, { name := "LOG2_ARRAY_BOOLEAN_INDEX_SCALE", type := .int, accessFlags := 25, slot := 2, constantValue := 0 }, { name := "LOG2_ARRAY_BYTE_INDEX_SCALE", type := .int, accessFlags := 25, slot := 3, constantValue := 0 }, { name := "LOG2_ARRAY_CHAR_INDEX_SCALE", type := .int, accessFlags := 25, slot := 4, constantValue := 0 }, { name := "LOG2_ARRAY_SHORT_INDEX_SCALE", type := .int, accessFlags := 25, slot := 5, constantValue := 0 }, { name := "LOG2_ARRAY_INT_INDEX_SCALE", type := .int, accessFlags := 25, slot := 6, constantValue := 0 }, { name := "LOG2_ARRAY_LONG_INDEX_SCALE", type := .int, accessFlags := 25, slot := 7, constantValue := 0 }, { name := "LOG2_ARRAY_FLOAT_INDEX_SCALE", type := .int, accessFlags := 25, slot := 8, constantValue := 0 }, { name := "LOG2_ARRAY_DOUBLE_INDEX_SCALE", type := .int, accessFlags := 25, slot := 9, constantValue := 0 }, { name := "LOG2_BYTE_BIT_SIZE", type := .int, accessFlags := 26, slot := 10, constantValue := 0 }, { name := "T_BOOLEAN", type := .int, accessFlags := 25, slot := 11, constantValue := 0 }, { name := "T_CHAR", type := .int, accessFlags := 25, slot := 12, constantValue := 0 }, { name := "T_FLOAT", type := .int, accessFlags := 25, slot := 13, constantValue := 0 }, { name := "T_DOUBLE", type := .int, accessFlags := 25, slot := 14, constantValue := 0 }, { name := "T_BYTE", type := .int, accessFlags := 25, slot := 15, constantValue := 0 }, { name := "T_SHORT", type := .int, accessFlags := 25, slot := 16, constantValue := 0 }, { name := "T_INT", type := .int, accessFlags := 25, slot := 17, constantValue := 0 }, { name := "T_LONG", type := .int, accessFlags := 25, slot := 18, constantValue := 0 }, { name := "JLA", type := (.object "jdk/internal/access/JavaLangAccess"), accessFlags := 26, slot := 19, constantValue := 0 }, { name := "SOFT_MAX_ARRAY_LENGTH", type := .int, accessFlags := 25, slot := 20, constantValue := 0 }]
  methods := #[k5m0, k5m1]
  instanceTypes := #[]
  staticTypes := #[(.object "jdk/internal/misc/Unsafe"), .boolean, .int, .int, .int, .int, .int, .int, .int, .int, .int, .int, .int, .int, .int, .int, .int, .int, .int, (.object "jdk/internal/access/JavaLangAccess"), .int]
  resolved := Array.replicate 378 none
  statics := none }

def pool6 : Array CpInfo := pool [(1, u "java/lang/Cloneable"), (0, .class_ 1), (0, u "java/lang/Object"), (0, .class_ 3)] 3

/-- java/lang/Cloneable -/
def k6 : Class := { plain "java/lang/Cloneable" (some 0) with
  accessFlags := 1537
  interfaces := #[]
  cf := some (fileOf pool6 2 #[] #[] 1537 4 #[] #[])
  fields := #[]
  methods := #[]
  instanceTypes := #[]
  staticTypes := #[]
  resolved := Array.replicate 8 none
  statics := none }

def pool7 : Array CpInfo := pool [(1, u "java/io/Serializable"), (0, .class_ 1), (0, u "java/lang/Object"), (0, .class_ 3)] 3

/-- java/io/Serializable -/
def k7 : Class := { plain "java/io/Serializable" (some 0) with
  accessFlags := 1537
  interfaces := #[]
  cf := some (fileOf pool7 2 #[] #[] 1537 4 #[] #[])
  fields := #[]
  methods := #[]
  instanceTypes := #[]
  staticTypes := #[]
  resolved := Array.replicate 8 none
  statics := none }

/-- the primitive boolean -/
def k8 : Class := { plain "boolean" none with kind := .primitive 'Z', accessFlags := 0x411 }
/-- [Z -/
def k9 : Class := { plain "[Z" (some 0) with kind := .array 8 .boolean, interfaces := #[6, 7], accessFlags := 1041 }

/-- the primitive byte -/
def k10 : Class := { plain "byte" none with kind := .primitive 'B', accessFlags := 0x411 }
/-- [B -/
def k11 : Class := { plain "[B" (some 0) with kind := .array 10 .byte, interfaces := #[6, 7], accessFlags := 1041 }

/-- the primitive int -/
def k12 : Class := { plain "int" none with kind := .primitive 'I', accessFlags := 0x411 }
/-- [I -/
def k13 : Class := { plain "[I" (some 0) with kind := .array 12 .int, interfaces := #[6, 7], accessFlags := 1041 }

def heap : Heap := #[{ cls := 2, slots := #[.int 0, .int 0, .int 0, .int 0, .null, .ref 1, .int 0], vm := .statics 2 },
  { cls := 11, slots := #[.int (-17), .int (-69), .int (-65)], vm := .none }]
def classes : Array Class := #[k0, k1, k2, k3, k4, k5, k6, k7, k8, k9, k10, k11, k12, k13]
def interned : List (Array UInt16 × Addr) := []
def slotsUsed : Nat := 10
def theMethod : MethodId := ⟨1, 3⟩
def args0 : Array Value := #[.int 1234567, .int 300, .int 2, .int 8]
def aboutOver (below : List Frame) : State where
  vm := { classes := classes, interned := interned.toArray }
  heap := heap
  slotsUsed := slotsUsed
  threads := #[{ frames := .invoking theMethod args0 :: below }]
def below0 : List Frame := [.native { method := ⟨0, 0⟩, args := #[] }]
def about1 : State := aboutOver below0
def p0 : Program := .bare "" "" ""
def e0 : Env := launch0.env 0 0 0
theorem w_frames : about1.frames = Frame.invoking theMethod args0 :: below0 := rfl
set_option maxRecDepth 65536 in
theorem w_args : argsFit about1.vm theMethod args0 = true := by decide +kernel
set_option maxRecDepth 65536 in
theorem w_heap : heapFits about1 = true := by decide +kernel
set_option maxRecDepth 65536 in
theorem w_runnable : about1.curStatus? = some .runnable := by decide +kernel
set_option maxRecDepth 65536 in
theorem w_alone : about1.alone = true := by decide +kernel
set_option maxRecDepth 65536 in
theorem w_named : about1.methodNamed? x = some theMethod := by decide +kernel
set_option maxRecDepth 65536 in
theorem w_hears : about1.hears theMethod below0 = true := by decide +kernel
set_option maxRecDepth 65536 in
theorem w_ripe : about1.ripe theMethod args0 below0 = true := by decide +kernel
theorem w_running : about1.status = .running := rfl
set_option maxRecDepth 65536 in
theorem w_room : about1.hasRoom e0.platform room_1 = true :=
  launch0.hasRoom_least _ room_1 (by decide +kernel) (by decide +kernel) (by decide +kernel) (by decide +kernel) (by decide +kernel) (by decide +kernel)
theorem allAtoms_all (ts : List Jvm.Cond) (a : Array Jvm.Value) (st : Jvm.State) : (allAtoms ts).before a st = ts.all (fun c => c.before a st) := by
  induction ts with
  | nil => rfl
  | cons c t ih =>
    show (Jvm.Cond.and c (allAtoms t)).before a st = _
    rw [Jvm.Cond.before_and, ih, List.all_cons]
def words1 : List Jvm.Cond := Jvm.Cond.code x code maxLocals ret :: tables_1
/-- a 'code' word, met by the world's own term for the bytes: nothing is compared byte by byte -/
theorem code_word {y : MethodName} {bytes : ByteArray} {mx : Nat} {rt : Option FieldType} {a : Array Value} {s : State} {m : MethodId} {meth : Method} {c : Code} (h1 : s.methodNamed? y = some m) (h2 : s.vm.method? m = some meth) (h3 : meth.code = some c) (h4 : c.code = bytes)
    (h5 : (c.maxLocals == mx && c.exceptionTable.isEmpty && decide (c.maxStack ≤ mostOperands) && decide (meth.sig.returnType = rt) && !meth.locks && decide (parseMethodDescriptor y.desc = some meth.sig)) = true) : (Jvm.Cond.code y bytes mx rt).before a s = true := by
  simp only [Bool.and_eq_true, beq_iff_eq, Bool.not_eq_true', decide_eq_true_eq] at h5
  obtain ⟨⟨⟨⟨⟨g1, g2⟩, g3⟩, g4⟩, g5⟩, g6⟩ := h5
  simp [Cond.before, Cond.holds, Cond.value, h1, h2, h3, h4, g1, g2, g3, g4, g5, g6]
def isCode : Jvm.Cond → Bool
  | .code _ _ _ _ => true
  | _ => false
theorem all_split {L : List Jvm.Cond} {P : Jvm.Cond → Bool} (h1 : L.all (fun c => isCode c || P c) = true) (h2 : ∀ c ∈ L.filter isCode, P c = true) : L.all P = true := by
  refine List.all_eq_true.mpr fun c hc => ?_
  have h := List.all_eq_true.mp h1 c hc
  rcases Bool.eq_false_or_eq_true (isCode c) with hi | hi
  · exact h2 c (List.mem_filter.mpr ⟨hc, hi⟩)
  · simpa [hi] using h
set_option maxRecDepth 65536 in
theorem w_c0 : (Jvm.Cond.code x code maxLocals ret).before args0 about1 = true := code_word (m := ⟨1, 3⟩) (meth := k1m3) (c := k1c3) (by decide +kernel) rfl rfl rfl (by decide +kernel)
set_option maxRecDepth 65536 in
theorem w_c1 : (Jvm.Cond.code ({ cls := "com/example/lintel/lintel/io/CsvReaderLengthPinLaw", name := "field", desc := "([BI[IIIIIZ)I" } : Jvm.MethodName) method_3_code (13 : Nat) (Option.some Jvm.ClassFile.FieldType.int)).before args0 about1 = true := code_word (m := ⟨1, 2⟩) (meth := k1m2) (c := k1c2) (by decide +kernel) rfl rfl rfl (by decide +kernel)
set_option maxRecDepth 65536 in
theorem w_c2 : (Jvm.Cond.code ({ cls := "com/example/lintel/lintel/io/CsvReader", name := "<init>", desc := "([B)V" } : Jvm.MethodName) prog_1_method_1_code (2 : Nat) (Option.none : Option Jvm.ClassFile.FieldType)).before args0 about1 = true := code_word (m := ⟨2, 0⟩) (meth := k2m0) (c := k2c0) (by decide +kernel) rfl rfl rfl (by decide +kernel)
set_option maxRecDepth 65536 in
theorem w_c3 : (Jvm.Cond.code ({ cls := "java/lang/Object", name := "<init>", desc := "()V" } : Jvm.MethodName) object_method_1_code (1 : Nat) (Option.none : Option Jvm.ClassFile.FieldType)).before args0 about1 = true := code_word (m := ⟨0, 0⟩) (meth := k0m0) (c := k0c0) (by decide +kernel) rfl rfl rfl (by decide +kernel)
set_option maxRecDepth 65536 in
theorem w_c4 : (Jvm.Cond.code ({ cls := "java/lang/Math", name := "min", desc := "(II)I" } : Jvm.MethodName) jdk_29_method_69_code (2 : Nat) (Option.some Jvm.ClassFile.FieldType.int)).before args0 about1 = true := code_word (m := ⟨3, 1⟩) (meth := k3m1) (c := k3c1) (by decide +kernel) rfl rfl rfl (by decide +kernel)
set_option maxRecDepth 65536 in
theorem w_c5 : (Jvm.Cond.code ({ cls := "java/util/Arrays", name := "equals", desc := "([BII[BII)Z" } : Jvm.MethodName) jdk_65_method_90_code (8 : Nat) (Option.some Jvm.ClassFile.FieldType.boolean)).before args0 about1 = true := code_word (m := ⟨4, 2⟩) (meth := k4m2) (c := k4c2) (by decide +kernel) rfl rfl rfl (by decide +kernel)
set_option maxRecDepth 65536 in
theorem w_c6 : (Jvm.Cond.code ({ cls := "java/util/Arrays", name := "rangeCheck", desc := "(III)V" } : Jvm.MethodName) jdk_65_method_30_code (3 : Nat) (Option.none : Option Jvm.ClassFile.FieldType)).before args0 about1 = true := code_word (m := ⟨4, 1⟩) (meth := k4m1) (c := k4c1) (by decide +kernel) rfl rfl rfl (by decide +kernel)
set_option maxRecDepth 65536 in
theorem w_c7 : (Jvm.Cond.code ({ cls := "jdk/internal/util/ArraysSupport", name := "mismatch", desc := "([BI[BII)I" } : Jvm.MethodName) jdk_48_method_14_code (8 : Nat) (Option.some Jvm.ClassFile.FieldType.int)).before args0 about1 = true := code_word (m := ⟨5, 1⟩) (meth := k5m1) (c := k5c1) (by decide +kernel) rfl rfl rfl (by decide +kernel)
set_option maxRecDepth 65536 in
theorem w_c8 : (Jvm.Cond.code ({ cls := "com/example/lintel/lintel/io/CsvReader", name := "next", desc := "()Z" } : Jvm.MethodName) prog_1_method_2_code (2 : Nat) (Option.some Jvm.ClassFile.FieldType.boolean)).before args0 about1 = true := code_word (m := ⟨2, 1⟩) (meth := k2m1) (c := k2c1) (by decide +kernel) rfl rfl rfl (by decide +kernel)
set_option maxRecDepth 65536 in
theorem w_c9 : (Jvm.Cond.code ({ cls := "com/example/lintel/lintel/io/CsvReader", name := "plain", desc := "()V" } : Jvm.MethodName) prog_1_method_11_code (2 : Nat) (Option.none : Option Jvm.ClassFile.FieldType)).before args0 about1 = true := code_word (m := ⟨2, 5⟩) (meth := k2m5) (c := k2c5) (by decide +kernel) rfl rfl rfl (by decide +kernel)
set_option maxRecDepth 65536 in
theorem w_c10 : (Jvm.Cond.code ({ cls := "com/example/lintel/lintel/io/CsvReader", name := "plainEnd", desc := "(I)I" } : Jvm.MethodName) prog_1_method_12_code (7 : Nat) (Option.some Jvm.ClassFile.FieldType.int)).before args0 about1 = true := code_word (m := ⟨2, 6⟩) (meth := k2m6) (c := k2c6) (by decide +kernel) rfl rfl rfl (by decide +kernel)
set_option maxRecDepth 65536 in
theorem w_c11 : (Jvm.Cond.code ({ cls := "com/example/lintel/lintel/io/CsvReader", name := "lineBreakLength", desc := "()I" } : Jvm.MethodName) prog_1_method_14_code (2 : Nat) (Option.some Jvm.ClassFile.FieldType.int)).before args0 about1 = true := code_word (m := ⟨2, 8⟩) (meth := k2m8) (c := k2c8) (by decide +kernel) rfl rfl rfl (by decide +kernel)
set_option maxRecDepth 65536 in
theorem w_c12 : (Jvm.Cond.code ({ cls := "com/example/lintel/lintel/io/CsvReader", name := "size", desc := "()I" } : Jvm.MethodName) prog_1_method_4_code (1 : Nat) (Option.some Jvm.ClassFile.FieldType.int)).before args0 about1 = true := code_word (m := ⟨2, 2⟩) (meth := k2m2) (c := k2c2) (by decide +kernel) rfl rfl rfl (by decide +kernel)
set_option maxRecDepth 65536 in
theorem w_c13 : (Jvm.Cond.code ({ cls := "com/example/lintel/lintel/io/CsvReader", name := "length", desc := "(I)I" } : Jvm.MethodName) prog_1_method_6_code (2 : Nat) (Option.some Jvm.ClassFile.FieldType.int)).before args0 about1 = true := code_word (m := ⟨2, 3⟩) (meth := k2m3) (c := k2c3) (by decide +kernel) rfl rfl rfl (by decide +kernel)
set_option maxRecDepth 65536 in
theorem w_c14 : (Jvm.Cond.code ({ cls := "com/example/lintel/lintel/io/CsvReaderLengthPinLaw", name := "put", desc := "([BIIZZ)I" } : Jvm.MethodName) method_2_code (6 : Nat) (Option.some Jvm.ClassFile.FieldType.int)).before args0 about1 = true := code_word (m := ⟨1, 1⟩) (meth := k1m1) (c := k1c1) (by decide +kernel) rfl rfl rfl (by decide +kernel)
set_option maxRecDepth 65536 in
theorem w_c15 : (Jvm.Cond.code ({ cls := "com/example/lintel/lintel/io/CsvReader", name := "quoted", desc := "()V" } : Jvm.MethodName) prog_1_method_10_code (2 : Nat) (Option.none : Option Jvm.ClassFile.FieldType)).before args0 about1 = true := code_word (m := ⟨2, 4⟩) (meth := k2m4) (c := k2c4) (by decide +kernel) rfl rfl rfl (by decide +kernel)
set_option maxRecDepth 65536 in
theorem w_c16 : (Jvm.Cond.code ({ cls := "com/example/lintel/lintel/io/CsvReader", name := "quoteAt", desc := "(I)I" } : Jvm.MethodName) prog_1_method_13_code (6 : Nat) (Option.some Jvm.ClassFile.FieldType.int)).before args0 about1 = true := code_word (m := ⟨2, 7⟩) (meth := k2m7) (c := k2c7) (by decide +kernel) rfl rfl rfl (by decide +kernel)
def codes1 : List Jvm.Cond := [Jvm.Cond.code x code maxLocals ret, Jvm.Cond.code ({ cls := "com/example/lintel/lintel/io/CsvReaderLengthPinLaw", name := "field", desc := "([BI[IIIIIZ)I" } : Jvm.MethodName) method_3_code (13 : Nat) (Option.some Jvm.ClassFile.FieldType.int), Jvm.Cond.code ({ cls := "com/example/lintel/lintel/io/CsvReader", name := "<init>", desc := "([B)V" } : Jvm.MethodName) prog_1_method_1_code (2 : Nat) (Option.none : Option Jvm.ClassFile.FieldType), Jvm.Cond.code ({ cls := "java/lang/Object", name := "<init>", desc := "()V" } : Jvm.MethodName) object_method_1_code (1 : Nat) (Option.none : Option Jvm.ClassFile.FieldType), Jvm.Cond.code ({ cls := "java/lang/Math", name := "min", desc := "(II)I" } : Jvm.MethodName) jdk_29_method_69_code (2 : Nat) (Option.some Jvm.ClassFile.FieldType.int), Jvm.Cond.code ({ cls := "java/util/Arrays", name := "equals", desc := "([BII[BII)Z" } : Jvm.MethodName) jdk_65_method_90_code (8 : Nat) (Option.some Jvm.ClassFile.FieldType.boolean), Jvm.Cond.code ({ cls := "java/util/Arrays", name := "rangeCheck", desc := "(III)V" } : Jvm.MethodName) jdk_65_method_30_code (3 : Nat) (Option.none : Option Jvm.ClassFile.FieldType), Jvm.Cond.code ({ cls := "jdk/internal/util/ArraysSupport", name := "mismatch", desc := "([BI[BII)I" } : Jvm.MethodName) jdk_48_method_14_code (8 : Nat) (Option.some Jvm.ClassFile.FieldType.int), Jvm.Cond.code ({ cls := "com/example/lintel/lintel/io/CsvReader", name := "next", desc := "()Z" } : Jvm.MethodName) prog_1_method_2_code (2 : Nat) (Option.some Jvm.ClassFile.FieldType.boolean), Jvm.Cond.code ({ cls := "com/example/lintel/lintel/io/CsvReader", name := "plain", desc := "()V" } : Jvm.MethodName) prog_1_method_11_code (2 : Nat) (Option.none : Option Jvm.ClassFile.FieldType), Jvm.Cond.code ({ cls := "com/example/lintel/lintel/io/CsvReader", name := "plainEnd", desc := "(I)I" } : Jvm.MethodName) prog_1_method_12_code (7 : Nat) (Option.some Jvm.ClassFile.FieldType.int), Jvm.Cond.code ({ cls := "com/example/lintel/lintel/io/CsvReader", name := "lineBreakLength", desc := "()I" } : Jvm.MethodName) prog_1_method_14_code (2 : Nat) (Option.some Jvm.ClassFile.FieldType.int), Jvm.Cond.code ({ cls := "com/example/lintel/lintel/io/CsvReader", name := "size", desc := "()I" } : Jvm.MethodName) prog_1_method_4_code (1 : Nat) (Option.some Jvm.ClassFile.FieldType.int), Jvm.Cond.code ({ cls := "com/example/lintel/lintel/io/CsvReader", name := "length", desc := "(I)I" } : Jvm.MethodName) prog_1_method_6_code (2 : Nat) (Option.some Jvm.ClassFile.FieldType.int), Jvm.Cond.code ({ cls := "com/example/lintel/lintel/io/CsvReaderLengthPinLaw", name := "put", desc := "([BIIZZ)I" } : Jvm.MethodName) method_2_code (6 : Nat) (Option.some Jvm.ClassFile.FieldType.int), Jvm.Cond.code ({ cls := "com/example/lintel/lintel/io/CsvReader", name := "quoted", desc := "()V" } : Jvm.MethodName) prog_1_method_10_code (2 : Nat) (Option.none : Option Jvm.ClassFile.FieldType), Jvm.Cond.code ({ cls := "com/example/lintel/lintel/io/CsvReader", name := "quoteAt", desc := "(I)I" } : Jvm.MethodName) prog_1_method_13_code (6 : Nat) (Option.some Jvm.ClassFile.FieldType.int)]
set_option maxRecDepth 65536 in
theorem codes_eq : words1.filter isCode = codes1 := rfl
theorem w_codes : ∀ c ∈ words1.filter isCode, c.before args0 about1 = true := by
  rw [codes_eq]
  intro c hc
  simp only [codes1, List.mem_cons, List.not_mem_nil, or_false] at hc
  rcases hc with rfl | rfl | rfl | rfl | rfl | rfl | rfl | rfl | rfl | rfl | rfl | rfl | rfl | rfl | rfl | rfl | rfl
  · exact w_c0
  · exact w_c1
  · exact w_c2
  · exact w_c3
  · exact w_c4
  · exact w_c5
  · exact w_c6
  · exact w_c7
  · exact w_c8
  · exact w_c9
  · exact w_c10
  · exact w_c11
  · exact w_c12
  · exact w_c13
  · exact w_c14
  · exact w_c15
  · exact w_c16
set_option maxRecDepth 65536 in
theorem w_t1 : (words1.take 24).all (fun c => isCode c || c.before args0 about1) = true := by decide +kernel
set_option maxRecDepth 65536 in
theorem w_t2 : ((words1.drop 24).take 24).all (fun c => isCode c || c.before args0 about1) = true := by decide +kernel
set_option maxRecDepth 65536 in
theorem w_t3 : (((words1.drop 24).drop 24).take 24).all (fun c => isCode c || c.before args0 about1) = true := by decide +kernel
set_option maxRecDepth 65536 in
theorem w_t4 : (((words1.drop 24).drop 24).drop 24).all (fun c => isCode c || c.before args0 about1) = true := by decide +kernel
theorem w_tables : (allAtoms (Jvm.Cond.code x code maxLocals ret :: tables_1)).before args0 about1 = true := by
  rw [allAtoms_all]
  show words1.all (fun c => c.before args0 about1) = true
  refine all_split ?_ w_codes
  rw [← List.take_append_drop 24 words1, List.all_append, w_t1, ← List.take_append_drop 24 (words1.drop 24), List.all_append, w_t2, ← List.take_append_drop 24 ((words1.drop 24).drop 24), List.all_append, w_t3, w_t4]
  rfl
set_option maxRecDepth 65536 in
theorem w_case : (Jvm.Cond.and given_1 narrow_1).before args0 about1 = true := by decide +kernel
theorem w_applies : (headSpec (Jvm.Cond.code x code maxLocals ret :: tables_1) room_1).applies x e0.platform about1 = true :=
  (Spec.applies_iff w_frames).mpr ⟨w_running, w_runnable, w_alone, w_named, w_hears, w_ripe, w_room, w_tables⟩
theorem atStart : AtStart classFile x code maxLocals ret World_1 tables_1 room_1 Calls_1 rest_1 Pre_1 launch0 p0 e0 about1 theMethod args0 below0 :=
  ⟨lists_1, trivial, launch0.admits_env _ _ _, launch0.least_env, fairChoices_fair.cas, fairChoices_fair.clock, w_frames, w_args, w_heap, w_applies, trivial, trivial, w_case⟩
end start1
theorem witness_1 : WitnessClaimed_1 := ⟨start1.p0, start1.e0, start1.about1, start1.theMethod, start1.args0, start1.below0, start1.atStart⟩
end Jvm.Pilot.@@N@@
