import JvmDerived
import JvmDerived.Pilot.@@N@@Statement
import JvmDerived.Pilot.@@N@@Code
set_option linter.unusedVariables false
set_option linter.unusedSimpArgs false
@@BLOCK:NumsL.lean.txt@@
namespace Jvm.Pilot.@@N@@
open Jvm Jvm.ClassFile Sem Op Lib Jvm.Free Jvm.Stand Jvm.LawKit Jvm.RoadKit Bundle Jvm.Pilot.@@N@@.Jvm.D
/-! OWN 1: a walk in continuation form: 'Go' says that from here the invocation ends well; one law a step carries it backwards -/
section OwnGo
variable {p : Program} {l : Launch} {e : Env} {R : Room} {s : State} {m : MethodId} {args : Array Value} {below : List Frame} {meth : Method} {c : Code} {Z : State} {y : MethodName} {bytes : ByteArray} {mx : Nat} {ret : Option FieldType} {n0 : Nat} {T T' : State} {h h' : Heap} {cells slots : Nat} {Q : Outcome → State → Prop} {pc pc' : Nat} {Ls : Array Slot} {st : List Value} {a0 : Array Value}
def Go (p : Program) (e : Env) (below : List Frame) (Q : Outcome → State → Prop) (t : State) : Prop := ∃ s₂ o, Steps p.tables e below t s₂ ∧ s₂.status = .running ∧ Ended s₂ below o ∧ Q o s₂
theorem Go.of {t t' : State} (k : ∀ u, Steps p.tables e below t' u → Steps p.tables e below t u) (G : Go p e below Q t') : Go p e below Q t := by
  obtain ⟨s₂, o, h1, h2⟩ := G; exact ⟨s₂, o, k _ h1, h2⟩
theorem Go.tr {t t' : State} (k : Steps p.tables e below t t') (G : Go p e below Q t') : Go p e below Q t := Go.of (fun _ h => k.trans h) G
/-- the place: all that a step asks of where the walk stands -/
def Pl (p : Program) (l : Launch) (e : Env) (R : Room) (s : State) (m : MethodId) (args : Array Value) (below : List Frame) (meth : Method) (c : Code) (Z : State) (y : MethodName) (bytes : ByteArray) (mx : Nat) (ret : Option FieldType) (n0 : Nat) (T : State) (h : Heap) (cells slots : Nat) : Prop :=
  (p.tables.exec = Jvm.exec ∧ Z.Warmed39 s.vm ∧ s.vm.findClass y.cls = some m.cls ∧ meth.name = y.name ∧ c.code = bytes ∧ c.maxLocals = mx ∧ meth.sig.returnType = ret ∧ meth.locks = false) ∧ ∃ locs, Stand p l e R s m args below meth c T locs cells slots ∧ Fr n0 locs ∧ T.heap = h
theorem Pl.here (P : Pl p l e R s m args below meth c Z y bytes mx ret n0 T h cells slots) : At T m c below := by obtain ⟨-, _, X, -⟩ := P; exact X.here
theorem Pl.hx (P : Pl p l e R s m args below meth c Z y bytes mx ret n0 T h cells slots) : p.tables.exec = Jvm.exec := P.1.1
theorem Pl.hZ (P : Pl p l e R s m args below meth c Z y bytes mx ret n0 T h cells slots) : Z.Warmed39 s.vm := P.1.2.1
theorem Pl.hown (P : Pl p l e R s m args below meth c Z y bytes mx ret n0 T h cells slots) : s.vm.findClass y.cls = some m.cls := P.1.2.2.1
theorem Pl.hnm (P : Pl p l e R s m args below meth c Z y bytes mx ret n0 T h cells slots) : meth.name = y.name := P.1.2.2.2.1
theorem Pl.hby (P : Pl p l e R s m args below meth c Z y bytes mx ret n0 T h cells slots) : c.code = bytes := P.1.2.2.2.2.1
theorem Pl.hml (P : Pl p l e R s m args below meth c Z y bytes mx ret n0 T h cells slots) : c.maxLocals = mx := P.1.2.2.2.2.2.1
theorem Pl.hrt (P : Pl p l e R s m args below meth c Z y bytes mx ret n0 T h cells slots) : meth.sig.returnType = ret := P.1.2.2.2.2.2.2.1
theorem Pl.hlk (P : Pl p l e R s m args below meth c Z y bytes mx ret n0 T h cells slots) : meth.locks = false := P.1.2.2.2.2.2.2.2
theorem Pl.up (P : Pl p l e R s m args below meth c Z y bytes mx ret n0 T h cells slots) {cells' slots' : Nat} (h1 : cells ≤ cells') (h2 : slots ≤ slots') : Pl p l e R s m args below meth c Z y bytes mx ret n0 T h cells' slots' := by
  obtain ⟨B, locs, X, N, eT⟩ := P
  exact ⟨B, locs, ⟨X.admits, X.cas, X.clock, X.frames, X.room, X.hears, X.method, X.code, X.here, X.tail, X.warmed, X.limits, X.bytes, X.same.mono h1 h2⟩, N, eT⟩
/-- a decode fact, with the place behind it -/
def D (b : ByteArray) (pc : Nat) (i : Instr) (n : Nat) (pc' : Nat) : Prop := decode b pc = .ok (i, n) ∧ pc + n = pc'
theorem Pl.dec (P : Pl p l e R s m args below meth c Z y bytes mx ret n0 T h cells slots) {i : Instr} {n : Nat} (hd : decode bytes pc = .ok (i, n)) : decode c.code pc = .ok (i, n) := by rw [P.hby]; exact hd

theorem g_iloadN (P : Pl p l e R s m args below meth c Z y bytes mx ret n0 T h cells slots) {k : Fin 4} {v : Int32} (hd : D bytes pc (.iload_n k) 1 pc') (hl : Ls[k.val]? = some (.val (.int v))) (G : Go p e below Q (T.setTop (mkF m pc' Ls (.int v :: st)))) : Go p e below Q (T.setTop (mkF m pc Ls st)) := by
  obtain ⟨hd, rfl⟩ := hd; exact Go.of (fun _ => XS.iloadN P.here P.hx rfl (P.dec hd) hl) G
theorem g_iload (P : Pl p l e R s m args below meth c Z y bytes mx ret n0 T h cells slots) {k : Nat} {v : Int32} (hd : D bytes pc (.iload k) 2 pc') (hl : Ls[k]? = some (.val (.int v))) (G : Go p e below Q (T.setTop (mkF m pc' Ls (.int v :: st)))) : Go p e below Q (T.setTop (mkF m pc Ls st)) := by
  obtain ⟨hd, rfl⟩ := hd; exact Go.of (fun _ => XS.iload P.here P.hx rfl (P.dec hd) hl) G
theorem g_lload (P : Pl p l e R s m args below meth c Z y bytes mx ret n0 T h cells slots) {k : Nat} {v : Int64} (hd : D bytes pc (.lload k) 2 pc') (hl : Ls[k]? = some (.val (.long v))) (G : Go p e below Q (T.setTop (mkF m pc' Ls (.long v :: st)))) : Go p e below Q (T.setTop (mkF m pc Ls st)) := by
  obtain ⟨hd, rfl⟩ := hd; exact Go.of (fun _ => XT.lload P.here P.hx rfl (P.dec hd) hl) G
theorem g_aloadN (P : Pl p l e R s m args below meth c Z y bytes mx ret n0 T h cells slots) {k : Fin 4} {v : Value} (hd : D bytes pc (.aload_n k) 1 pc') (hl : Ls[k.val]? = some (.val v)) (hv : v.isRef = true) (G : Go p e below Q (T.setTop (mkF m pc' Ls (v :: st)))) : Go p e below Q (T.setTop (mkF m pc Ls st)) := by
  obtain ⟨hd, rfl⟩ := hd; exact Go.of (fun _ => XS.aloadN P.here P.hx rfl (P.dec hd) hl hv) G
theorem g_aload (P : Pl p l e R s m args below meth c Z y bytes mx ret n0 T h cells slots) {k : Nat} {v : Value} (hd : D bytes pc (.aload k) 2 pc') (hl : Ls[k]? = some (.val v)) (hv : v.isRef = true) (G : Go p e below Q (T.setTop (mkF m pc' Ls (v :: st)))) : Go p e below Q (T.setTop (mkF m pc Ls st)) := by
  obtain ⟨hd, rfl⟩ := hd; exact Go.of (fun _ => XS.aload P.here P.hx rfl (P.dec hd) hl hv) G
theorem g_iconst (P : Pl p l e R s m args below meth c Z y bytes mx ret n0 T h cells slots) {i : Int} {v : Int32} (hd : D bytes pc (.iconst i) 1 pc') (hv : Int32.ofInt i = v) (G : Go p e below Q (T.setTop (mkF m pc' Ls (.int v :: st)))) : Go p e below Q (T.setTop (mkF m pc Ls st)) := by
  obtain ⟨hd, rfl⟩ := hd; subst hv; exact Go.of (fun _ => XS.iconst P.here P.hx rfl (P.dec hd)) G
theorem g_bipush (P : Pl p l e R s m args below meth c Z y bytes mx ret n0 T h cells slots) {i : Int} {v : Int32} (hd : D bytes pc (.bipush i) 2 pc') (hv : (Int8.ofInt i).toInt32 = v) (G : Go p e below Q (T.setTop (mkF m pc' Ls (.int v :: st)))) : Go p e below Q (T.setTop (mkF m pc Ls st)) := by
  obtain ⟨hd, rfl⟩ := hd; subst hv; exact Go.of (fun _ => XS.bipush P.here P.hx rfl (P.dec hd)) G
theorem g_aconstNull (P : Pl p l e R s m args below meth c Z y bytes mx ret n0 T h cells slots) (hd : D bytes pc .aconst_null 1 pc') (G : Go p e below Q (T.setTop (mkF m pc' Ls (.null :: st)))) : Go p e below Q (T.setTop (mkF m pc Ls st)) := by
  obtain ⟨hd, rfl⟩ := hd; exact Go.of (fun _ => XS.aconstNull P.here P.hx rfl (P.dec hd)) G
theorem g_iadd (P : Pl p l e R s m args below meth c Z y bytes mx ret n0 T h cells slots) {x z v : Int32} (hd : D bytes pc .iadd 1 pc') (hv : x + z = v) (G : Go p e below Q (T.setTop (mkF m pc' Ls (.int v :: st)))) : Go p e below Q (T.setTop (mkF m pc Ls (.int z :: .int x :: st))) := by
  obtain ⟨hd, rfl⟩ := hd; subst hv; exact Go.of (fun _ => XS.iadd P.here P.hx rfl (P.dec hd) rfl) G
theorem g_isub (P : Pl p l e R s m args below meth c Z y bytes mx ret n0 T h cells slots) {x z v : Int32} (hd : D bytes pc .isub 1 pc') (hv : x - z = v) (G : Go p e below Q (T.setTop (mkF m pc' Ls (.int v :: st)))) : Go p e below Q (T.setTop (mkF m pc Ls (.int z :: .int x :: st))) := by
  obtain ⟨hd, rfl⟩ := hd; subst hv; exact Go.of (fun _ => XS.isub P.here P.hx rfl (P.dec hd) rfl) G
theorem g_imul (P : Pl p l e R s m args below meth c Z y bytes mx ret n0 T h cells slots) {x z v : Int32} (hd : D bytes pc .imul 1 pc') (hv : x * z = v) (G : Go p e below Q (T.setTop (mkF m pc' Ls (.int v :: st)))) : Go p e below Q (T.setTop (mkF m pc Ls (.int z :: .int x :: st))) := by
  obtain ⟨hd, rfl⟩ := hd; subst hv; exact Go.of (fun _ => XS.imul P.here P.hx rfl (P.dec hd) rfl) G
theorem g_iand (P : Pl p l e R s m args below meth c Z y bytes mx ret n0 T h cells slots) {x z v : Int32} (hd : D bytes pc .iand 1 pc') (hv : x &&& z = v) (G : Go p e below Q (T.setTop (mkF m pc' Ls (.int v :: st)))) : Go p e below Q (T.setTop (mkF m pc Ls (.int z :: .int x :: st))) := by
  obtain ⟨hd, rfl⟩ := hd; subst hv; exact Go.of (fun _ => XS.iand P.here P.hx rfl (P.dec hd) rfl) G
theorem g_irem (P : Pl p l e R s m args below meth c Z y bytes mx ret n0 T h cells slots) {x z v : Int32} (hd : D bytes pc .irem 1 pc') (hz : z ≠ 0) (hv : x % z = v) (G : Go p e below Q (T.setTop (mkF m pc' Ls (.int v :: st)))) : Go p e below Q (T.setTop (mkF m pc Ls (.int z :: .int x :: st))) := by
  obtain ⟨hd, rfl⟩ := hd; subst hv; obtain ⟨-, _, X, -⟩ := id P; exact Go.of (fun _ => iremM X P.hx rfl (P.dec hd) rfl hz) G
theorem g_iushr (P : Pl p l e R s m args below meth c Z y bytes mx ret n0 T h cells slots) {x z v : Int32} (hd : D bytes pc .iushr 1 pc') (hv : XT.ushr x z = v) (G : Go p e below Q (T.setTop (mkF m pc' Ls (.int v :: st)))) : Go p e below Q (T.setTop (mkF m pc Ls (.int z :: .int x :: st))) := by
  obtain ⟨hd, rfl⟩ := hd; subst hv; exact Go.of (fun _ => XT.iushr P.here P.hx rfl (P.dec hd) rfl) G
theorem g_ineg (P : Pl p l e R s m args below meth c Z y bytes mx ret n0 T h cells slots) {x : Int32} (hd : D bytes pc .ineg 1 pc') (G : Go p e below Q (T.setTop (mkF m pc' Ls (.int (-x) :: st)))) : Go p e below Q (T.setTop (mkF m pc Ls (.int x :: st))) := by
  obtain ⟨hd, rfl⟩ := hd; exact Go.of (fun _ => XS.ineg P.here P.hx rfl (P.dec hd) rfl) G
theorem g_dup (P : Pl p l e R s m args below meth c Z y bytes mx ret n0 T h cells slots) {x : Value} (hd : D bytes pc .dup 1 pc') (hc : x.category = 1) (G : Go p e below Q (T.setTop (mkF m pc' Ls (x :: x :: st)))) : Go p e below Q (T.setTop (mkF m pc Ls (x :: st))) := by
  obtain ⟨hd, rfl⟩ := hd; exact Go.of (fun _ => XS.dup P.here P.hx rfl (P.dec hd) rfl hc) G
theorem g_pop (P : Pl p l e R s m args below meth c Z y bytes mx ret n0 T h cells slots) {x : Value} (hd : D bytes pc .pop 1 pc') (hc : x.category = 1) (G : Go p e below Q (T.setTop (mkF m pc' Ls st))) : Go p e below Q (T.setTop (mkF m pc Ls (x :: st))) := by
  obtain ⟨hd, rfl⟩ := hd; exact Go.of (fun _ => XT.pop P.here P.hx rfl (P.dec hd) rfl hc) G
theorem g_istoreN (P : Pl p l e R s m args below meth c Z y bytes mx ret n0 T h cells slots) {k : Fin 4} {x : Int32} (hd : D bytes pc (.istore_n k) 1 pc') (l' : Array Slot) (hl : storeLocals Ls k.val (.int x) = some l') (G : Go p e below Q (T.setTop (mkF m pc' l' st))) : Go p e below Q (T.setTop (mkF m pc Ls (.int x :: st))) := by
  obtain ⟨hd, rfl⟩ := hd; exact Go.of (fun _ => XS.istoreN P.here P.hx rfl (P.dec hd) rfl hl) G
theorem g_istore (P : Pl p l e R s m args below meth c Z y bytes mx ret n0 T h cells slots) {k : Nat} {x : Int32} (hd : D bytes pc (.istore k) 2 pc') (l' : Array Slot) (hl : storeLocals Ls k (.int x) = some l') (G : Go p e below Q (T.setTop (mkF m pc' l' st))) : Go p e below Q (T.setTop (mkF m pc Ls (.int x :: st))) := by
  obtain ⟨hd, rfl⟩ := hd; exact Go.of (fun _ => XS.istore P.here P.hx rfl (P.dec hd) rfl hl) G
theorem g_lstore (P : Pl p l e R s m args below meth c Z y bytes mx ret n0 T h cells slots) {k : Nat} {x : Int64} (hd : D bytes pc (.lstore k) 2 pc') (l' : Array Slot) (hl : storeLocals Ls k (.long x) = some l') (G : Go p e below Q (T.setTop (mkF m pc' l' st))) : Go p e below Q (T.setTop (mkF m pc Ls (.long x :: st))) := by
  obtain ⟨hd, rfl⟩ := hd; exact Go.of (fun _ => XT.lstore P.here P.hx rfl (P.dec hd) rfl hl) G
theorem g_astoreN (P : Pl p l e R s m args below meth c Z y bytes mx ret n0 T h cells slots) {k : Fin 4} {x : Value} (hd : D bytes pc (.astore_n k) 1 pc') (hv : x.isRef = true) (l' : Array Slot) (hl : storeLocals Ls k.val x = some l') (G : Go p e below Q (T.setTop (mkF m pc' l' st))) : Go p e below Q (T.setTop (mkF m pc Ls (x :: st))) := by
  obtain ⟨hd, rfl⟩ := hd; exact Go.of (fun _ => XS.astoreN P.here P.hx rfl (P.dec hd) rfl hv hl) G
theorem g_astore (P : Pl p l e R s m args below meth c Z y bytes mx ret n0 T h cells slots) {k : Nat} {x : Value} (hd : D bytes pc (.astore k) 2 pc') (hv : x.isRef = true) (l' : Array Slot) (hl : storeLocals Ls k x = some l') (G : Go p e below Q (T.setTop (mkF m pc' l' st))) : Go p e below Q (T.setTop (mkF m pc Ls (x :: st))) := by
  obtain ⟨hd, rfl⟩ := hd; exact Go.of (fun _ => XS.astore P.here P.hx rfl (P.dec hd) rfl hv hl) G
theorem g_iinc (P : Pl p l e R s m args below meth c Z y bytes mx ret n0 T h cells slots) {k : Nat} {cst : Int} {x w : Int32} (hd : D bytes pc (.iinc k cst) 3 pc') (hl : Ls[k]? = some (.val (.int x))) (hw : x + Int32.ofInt cst = w) (l' : Array Slot) (hl' : storeLocals Ls k (.int w) = some l') (G : Go p e below Q (T.setTop (mkF m pc' l' st))) : Go p e below Q (T.setTop (mkF m pc Ls st)) := by
  obtain ⟨hd, rfl⟩ := hd; subst hw; exact Go.of (fun _ => XS.iinc P.here P.hx rfl (P.dec hd) hl hl') G
theorem g_goto (P : Pl p l e R s m args below meth c Z y bytes mx ret n0 T h cells slots) {o : Int} {q : Nat} (hd : D bytes pc (.goto o) 3 q) (pc' : Nat) (ho : 0 ≤ (pc : Int) + o) (hp : ((pc : Int) + o).toNat = pc') (G : Go p e below Q (T.setTop (mkF m pc' Ls st))) : Go p e below Q (T.setTop (mkF m pc Ls st)) := by
  obtain ⟨hd, -⟩ := hd; exact Go.of (fun _ => XS.goto P.here P.hx rfl rfl (P.dec hd) ho hp) G
theorem g_ifYes (P : Pl p l e R s m args below meth c Z y bytes mx ret n0 T h cells slots) {cd : ClassFile.Cond} {x : Int32} {o : Int} {q : Nat} (hd : D bytes pc (.ifCond cd o) 3 q) (hc : ifCond.holds cd x = true) (pc' : Nat) (ho : 0 ≤ (pc : Int) + o) (hp : ((pc : Int) + o).toNat = pc') (G : Go p e below Q (T.setTop (mkF m pc' Ls st))) : Go p e below Q (T.setTop (mkF m pc Ls (.int x :: st))) := by
  obtain ⟨hd, -⟩ := hd; exact Go.of (fun _ => XS.ifYes P.here P.hx rfl rfl (P.dec hd) rfl hc ho hp) G
theorem g_ifNo (P : Pl p l e R s m args below meth c Z y bytes mx ret n0 T h cells slots) {cd : ClassFile.Cond} {x : Int32} {o : Int} (hd : D bytes pc (.ifCond cd o) 3 pc') (hc : ifCond.holds cd x = false) (G : Go p e below Q (T.setTop (mkF m pc' Ls st))) : Go p e below Q (T.setTop (mkF m pc Ls (.int x :: st))) := by
  obtain ⟨hd, rfl⟩ := hd; exact Go.of (fun _ => XS.ifNo P.here P.hx rfl (P.dec hd) rfl hc) G
theorem g_icmpYes (P : Pl p l e R s m args below meth c Z y bytes mx ret n0 T h cells slots) {cd : ClassFile.Cond} {x z : Int32} {o : Int} {q : Nat} (hd : D bytes pc (.if_icmp cd o) 3 q) (hc : if_icmp.holds cd x z = true) (pc' : Nat) (ho : 0 ≤ (pc : Int) + o) (hp : ((pc : Int) + o).toNat = pc') (G : Go p e below Q (T.setTop (mkF m pc' Ls st))) : Go p e below Q (T.setTop (mkF m pc Ls (.int z :: .int x :: st))) := by
  obtain ⟨hd, -⟩ := hd; exact Go.of (fun _ => XS.icmpYes P.here P.hx rfl rfl (P.dec hd) rfl hc ho hp) G
theorem g_icmpNo (P : Pl p l e R s m args below meth c Z y bytes mx ret n0 T h cells slots) {cd : ClassFile.Cond} {x z : Int32} {o : Int} (hd : D bytes pc (.if_icmp cd o) 3 pc') (hc : if_icmp.holds cd x z = false) (G : Go p e below Q (T.setTop (mkF m pc' Ls st))) : Go p e below Q (T.setTop (mkF m pc Ls (.int z :: .int x :: st))) := by
  obtain ⟨hd, rfl⟩ := hd; exact Go.of (fun _ => XS.icmpNo P.here P.hx rfl (P.dec hd) rfl hc) G
theorem g_acmpYes (P : Pl p l e R s m args below meth c Z y bytes mx ret n0 T h cells slots) {cd : ClassFile.ACond} {x z : Value} {o : Int} {q : Nat} (hd : D bytes pc (.if_acmp cd o) 3 q) (hx' : x.isRef = true) (hz' : z.isRef = true) (hc : XT.acmp cd x z = true) (pc' : Nat) (ho : 0 ≤ (pc : Int) + o) (hp : ((pc : Int) + o).toNat = pc') (G : Go p e below Q (T.setTop (mkF m pc' Ls st))) : Go p e below Q (T.setTop (mkF m pc Ls (z :: x :: st))) := by
  obtain ⟨hd, -⟩ := hd; exact Go.of (fun _ => XT.acmpYes P.here P.hx rfl rfl (P.dec hd) rfl hx' hz' hc ho hp) G
theorem g_acmpNo (P : Pl p l e R s m args below meth c Z y bytes mx ret n0 T h cells slots) {cd : ClassFile.ACond} {x z : Value} {o : Int} (hd : D bytes pc (.if_acmp cd o) 3 pc') (hx' : x.isRef = true) (hz' : z.isRef = true) (hc : XT.acmp cd x z = false) (G : Go p e below Q (T.setTop (mkF m pc' Ls st))) : Go p e below Q (T.setTop (mkF m pc Ls (z :: x :: st))) := by
  obtain ⟨hd, rfl⟩ := hd; exact Go.of (fun _ => XT.acmpNo P.here P.hx rfl (P.dec hd) rfl hx' hz' hc) G
theorem g_ldc (P : Pl p l e R s m args below meth c Z y bytes mx ret n0 T h cells slots) {index : Nat} {v : Int32} (hd : D bytes pc (.ldc index) 2 pc') (w : (Cond.constant y.cls index v).before a0 Z = true) (G : Go p e below Q (T.setTop (mkF m pc' Ls (.int v :: st)))) : Go p e below Q (T.setTop (mkF m pc Ls st)) := by
  obtain ⟨hd, rfl⟩ := hd; obtain ⟨-, _, X, -⟩ := id P; exact Go.of (fun _ => X.ldcI P.hx P.hown (mvT P.hZ w) rfl (P.dec hd)) G
/-! what the heap or the tables are asked -/
theorem g_getF (P : Pl p l e R s m args below meth c Z y bytes mx ret n0 T h cells slots) {R0 O n d host : String} {index : Nat} {a : Addr} {v : Value} (hd : D bytes pc (.getfield index) 3 pc') (w : (Cond.fieldLink y.cls index R0 n d).before a0 Z = true ∨ (Cond.fieldLinkNest y.cls index R0 n d host).before a0 Z = true) (via : Via Z R0 O n d) (F : Fld Z h a O n d v)
    (G : ∀ T', Pl p l e R s m args below meth c Z y bytes mx ret n0 T' h cells slots → Go p e below Q (T'.setTop (mkF m pc' Ls (v :: st)))) : Go p e below Q (T.setTop (mkF m pc Ls (.ref a :: st))) := by
  obtain ⟨hd, rfl⟩ := hd; obtain ⟨B, locs, X, N, eT⟩ := id P
  obtain ⟨T', X', e', stp⟩ := getF X P.hx P.hZ P.hown w via eT F (g := mkF m pc Ls (.ref a :: st)) rfl rfl (P.dec hd)
  exact Go.of stp (G T' ⟨B, locs, X', N, e'⟩)
theorem g_getS (P : Pl p l e R s m args below meth c Z y bytes mx ret n0 T h cells slots) {R0 O n d host : String} {index : Nat} {v : Value} (hd : D bytes pc (.getstatic index) 3 pc') (w : (Cond.fieldLink y.cls index R0 n d).before a0 Z = true ∨ (Cond.fieldLinkNest y.cls index R0 n d host).before a0 Z = true) (via : Via Z R0 O n d) (F : Sta Z h O n d v)
    (G : ∀ T', Pl p l e R s m args below meth c Z y bytes mx ret n0 T' h cells slots → Go p e below Q (T'.setTop (mkF m pc' Ls (v :: st)))) : Go p e below Q (T.setTop (mkF m pc Ls st)) := by
  obtain ⟨hd, rfl⟩ := hd; obtain ⟨B, locs, X, N, eT⟩ := id P
  obtain ⟨T', X', e', stp⟩ := getS2 X P.hx P.hZ P.hown w via eT F (g := mkF m pc Ls st) rfl (P.dec hd)
  exact Go.of stp (G T' ⟨B, locs, X', N, e'⟩)
theorem g_putF (P : Pl p l e R s m args below meth c Z y bytes mx ret n0 T h cells slots) {R0 O n d host C : String} {index kk : Nat} {ty : FieldType} {a : Addr} {v old : Value} (hd : D bytes pc (.putfield index) 3 pc') (w : (Cond.fieldLink y.cls index R0 n d).before a0 Z = true ∨ (Cond.fieldLinkNest y.cls index R0 n d host).before a0 Z = true) (via : Via Z R0 O n d) (F : Fld Z h a O n d old) (E : Exa Z h a C)
    (L : (Cond.lays C O n d).before a0 Z = true ∨ ((Cond.laysFinal C O n d).before a0 Z = true ∧ y.cls = O ∧ y.name = "<init>")) (wi : (Cond.instantiable C kk).before a0 Z = true) (hty : parseFieldDescriptor d = some ty) (hn : narrow ty v = v) (hf : fits ty v = true) (ge : n0 ≤ a)
    (G : ∀ T' h', Pl p l e R s m args below meth c Z y bytes mx ret n0 T' h' cells slots → Wr h h' a (Jvm.RoadKit.slotOf Z O n d) v → Go p e below Q (T'.setTop (mkF m pc' Ls st))) : Go p e below Q (T.setTop (mkF m pc Ls (v :: .ref a :: st))) := by
  obtain ⟨hd, rfl⟩ := hd; obtain ⟨B, locs, X, N, eT⟩ := id P
  obtain ⟨T', h', X', e', W, stp⟩ := putF X P.hx P.hZ P.hown w via eT F E (L.imp id fun q => ⟨q.1, q.2.1, P.hnm.trans q.2.2⟩) wi hty hn hf (g := mkF m pc Ls (v :: .ref a :: st)) rfl rfl (P.dec hd)
  exact Go.of stp (G T' h' ⟨B, _, X', Fr.snoc X' N ge, e'⟩ W)
theorem g_new (P : Pl p l e R s m args below meth c Z y bytes mx ret n0 T h cells slots) {C : String} {index n : Nat} (hd : D bytes pc (.new index) 3 pc') (w : (Cond.classLink y.cls index C).before a0 Z = true) (wi : (Cond.instantiable C n).before a0 Z = true) (wz : (Cond.initialized C).before a0 Z = true) (hc : cells + 1 ≤ R.cells) (hl : slots + n ≤ R.slots)
    (G : ∀ T' h' a, Pl p l e R s m args below meth c Z y bytes mx ret n0 T' h' (cells + 1) (slots + n) → h.size = a → Ext h h' → Exa Z h' a C → (∀ {O nm d : String} {ty : FieldType}, Laid Z a0 C O nm d → parseFieldDescriptor d = some ty → Fld Z h' a O nm d (defaultValue ty)) → Go p e below Q (T'.setTop (mkF m pc' Ls (.ref a :: st)))) : Go p e below Q (T.setTop (mkF m pc Ls st)) := by
  obtain ⟨hd, rfl⟩ := hd; obtain ⟨B, locs, X, N, eT⟩ := id P
  obtain ⟨T', h', X', e', E, A, F, -, stp⟩ := newO X P.hx P.hZ P.hown w wi wz eT (g := mkF m pc Ls st) rfl (P.dec hd) hc hl
  exact Go.of stp (G T' h' _ ⟨B, locs, X', N, e'⟩ rfl E A F)
theorem g_init (P : Pl p l e R s m args below meth c Z y bytes mx ret n0 T h cells slots) {idx : Nat} {a : Addr} (hd : D bytes pc (.invokespecial idx) 3 pc') (w1 : (Cond.methodLink y.cls idx Lib.objectInit).before a0 Z = true) (w2 : (Cond.instanceMethod Lib.objectInit).before a0 Z = true) (w3 : (Cond.code Lib.objectInit ⟨#[0xb1]⟩ 1 none).before a0 Z = true)
    (hs : Ls.size = mx) (hf : 1 ≤ R.frames) {W : Nat} (hW : (st.map fun v => v.category).sum = W) (hl : W + 12 ≤ R.locals)
    (G : ∀ T', Pl p l e R s m args below meth c Z y bytes mx ret n0 T' h cells slots → Go p e below Q (T'.setTop (mkF m pc' Ls st))) : Go p e below Q (T.setTop (mkF m pc Ls (.ref a :: st))) := by
  obtain ⟨hd, rfl⟩ := hd; obtain ⟨B, locs, X, N, eT⟩ := id P
  obtain ⟨T', X', e', stp⟩ := initO X P.hx P.hZ P.hown w1 w2 w3 eT (g := mkF m pc Ls (.ref a :: st)) rfl (by rw [P.hml]; exact hs) rfl (P.dec hd) hf (W := W) (by show 2 * 0 + _ ≤ W; omega) hl
  exact Go.of stp (G T' ⟨B, locs, X', N, e'⟩)
/-! what a body leaves; its contract; the ends -/
def Done (s : State) (R : Room) (n0 : Nat) (Qc : Option Value → Heap → Prop) (o : Outcome) (U : State) : Prop := ∃ v L, o = .returned v ∧ (Fr n0 L ∧ Qc v U.heap) ∧ FrameEnd s o U L R.cells R.slots
def Met (l : Launch) (Z : State) (y : MethodName) (bytes : ByteArray) (mx : Nat) (ret : Option FieldType) (rm : Room) (n0 : Nat) (as' : Array Value) (h : Heap) (Qc : Option Value → Heap → Prop) : Prop :=
  ∀ ws, MetFree l y (head1 (Jvm.Cond.code y bytes mx ret :: ws) rm) (fun a U => a = as' ∧ Z.Warmed39 U.vm ∧ U.heap = h) (fun _ _ _ _ _ => True) (fun _ U o U' => ∃ v L, o = .returned v ∧ (Fr n0 L ∧ Qc v U'.heap) ∧ FrameEnd U o U' L rm.cells rm.slots)
theorem Met.intro {Qc : Option Value → Heap → Prop} {rm : Room} {as' : Array Value} (pn : plainFor y = true)
    (body : ∀ p e s m below meth c T, Pl p l e rm s m as' below meth c Z y bytes mx ret n0 T h 0 0 → Go p e below (Done s rm n0 Qc) (T.setTop (entryFrame m as' mx))) : Met l Z y bytes mx ret rm n0 as' h Qc := by
  intro ws
  refine MetFree.of_bodySF pn hisR ?_
  intro p e s m args below meth c s₁ Bd hml0 hP hK
  obtain ⟨rfl, hZ, hh⟩ := hP
  have X0 : Stand p l e rm s m args below meth c s₁ [] 0 0 := Stand.of_body Bd
  have e0 : s₁.heap = h := by rw [← hh, Bd.state]; rfl
  exact body p e s m below meth c s₁ ⟨⟨Bd.exec, hZ, findClass_of_methodNamed Bd.named, (name_of_methodNamed Bd.named Bd.method).1, Bd.bytes, hml0, Bd.returns, BodyLoose.notSynchronized Bd⟩, [], X0, Fr.nil n0, e0⟩
theorem Go.cast {g g' : JFrame} (q : g = g') (G : Go p e below Q (T.setTop g')) : Go p e below Q (T.setTop g) := q ▸ G
theorem Go.fin {Qc : Option Value → Heap → Prop} {v : Option Value} {g : JFrame} (P : Pl p l e R s m args below meth c Z y bytes mx ret n0 T h cells slots) (hv : ret = none → v = none) (hc : cells ≤ R.cells) (hl : slots ≤ R.slots)
    (k : ∀ fs, (∀ (f : JFrame) (acts : List Action), f.method = m → f.locked = none → f.entered = [] → (doReturn e (T.setTop f) acts v).1 = T.setFrames fs) → Steps p.tables e below (T.setTop g) (T.setFrames fs)) (q : Qc v h) : Go p e below (Done s R n0 Qc) (T.setTop g) := by
  obtain ⟨B, locs, X, N, eT⟩ := id P
  obtain ⟨fs, hr, hrun, hended, hW, hsame⟩ := X.leave (v := v) (fun q => hv (P.hrt.symm.trans q)) P.hlk
  exact ⟨_, _, k fs hr, hrun, hended, v, locs, rfl, ⟨N, by show Qc v T.heap; rw [eT]; exact q⟩, ⟨_, rfl⟩, hW, hsame.mono hc hl⟩
theorem g_retI {Qc : Option Value → Heap → Prop} {z : Int32} (P : Pl p l e R s m args below meth c Z y bytes mx (some .int) n0 T h cells slots) (hd : D bytes pc .ireturn 1 pc') (hc : cells ≤ R.cells) (hl : slots ≤ R.slots) (q : Qc (some (.int z)) h) : Go p e below (Done s R n0 Qc) (T.setTop (mkF m pc Ls (.int z :: st))) := by
  obtain ⟨B, locs, X, N, eT⟩ := id P
  exact Go.fin P (fun q => by cases q) hc hl (fun fs hr => retOut X P.hx P.hrt rfl (Or.inl ⟨rfl, Or.inl rfl, _, rfl⟩) (P.dec hd.1) hr) q
theorem g_retZ {Qc : Option Value → Heap → Prop} {z : Int32} (P : Pl p l e R s m args below meth c Z y bytes mx (some .boolean) n0 T h cells slots) (hd : D bytes pc .ireturn 1 pc') (hz : z &&& 1 = z) (hc : cells ≤ R.cells) (hl : slots ≤ R.slots) (q : Qc (some (.int z)) h) : Go p e below (Done s R n0 Qc) (T.setTop (mkF m pc Ls (.int z :: st))) := by
  obtain ⟨B, locs, X, N, eT⟩ := id P
  exact Go.fin P (fun q => by cases q) hc hl (fun fs hr => retN X P.hx (t := .boolean) P.hrt (by simp) (P.dec hd.1) (by show ∀ (f : JFrame) (acts : List Action), _ → _ → _ → (doReturn e (T.setTop f) acts (some (.int (z &&& 1)))).1 = _; rw [hz]; exact hr)) q
theorem g_retA {Qc : Option Value → Heap → Prop} {w : Value} {t : FieldType} (P : Pl p l e R s m args below meth c Z y bytes mx (some t) n0 T h cells slots) (hd : D bytes pc .areturn 1 pc') (ht : t.isReference = true) (hw : w.isRef = true) (hn : narrow t w = w) (hc : cells ≤ R.cells) (hl : slots ≤ R.slots) (q : Qc (some w) h) : Go p e below (Done s R n0 Qc) (T.setTop (mkF m pc Ls (w :: st))) := by
  obtain ⟨B, locs, X, N, eT⟩ := id P
  exact Go.fin P (fun q => by cases q) hc hl (fun fs hr => retOut X P.hx P.hrt hn (Or.inr (Or.inr (Or.inr (Or.inr ⟨rfl, ht, hw⟩)))) (P.dec hd.1) hr) q
theorem g_ret {Qc : Option Value → Heap → Prop} (P : Pl p l e R s m args below meth c Z y bytes mx none n0 T h cells slots) (hd : D bytes pc .return_ 1 pc') (hc : cells ≤ R.cells) (hl : slots ≤ R.slots) (q : Qc none h) : Go p e below (Done s R n0 Qc) (T.setTop (mkF m pc Ls [])) := by
  obtain ⟨B, locs, X, N, eT⟩ := id P
  exact Go.fin P (fun _ => rfl) hc hl (fun fs hr => X.returnOut P.hx P.hrt (P.dec hd.1) hr) q
/-! the calls -/
theorem g_static (P : Pl p l e R s m args below meth c Z y bytes mx ret n0 T h cells slots) {y' : MethodName} {bytes' : ByteArray} {mx' : Nat} {ret' : Option FieldType} {rm : Room} {Qc : Option Value → Heap → Prop} {index : Nat} {ps : List FieldType} {r : Option FieldType} (argsL : List Value) {stk rest : List Value} {W : Nat}
    (hd : D bytes pc (.invokestatic index) 3 pc') (w1 : (Cond.methodLink y.cls index y').before a0 Z = true) (w2 : (Cond.static y').before a0 Z = true) (w3 : (Cond.initialized y'.cls).before a0 Z = true) (w4 : (Cond.code y' bytes' mx' ret').before a0 Z = true) (hy : y'.cls ≠ "java/lang/invoke/MethodHandle" ∧ y'.cls ≠ "java/lang/invoke/VarHandle")
    (M : Met l Z y' bytes' mx' ret' rm n0 argsL.toArray h Qc) (pd : parseMethodDescriptor y'.desc = some ⟨ps, r⟩) (hl : argsL.length = ps.length) (hs : stk = argsL.reverse ++ rest) (hmx : Ls.size = mx) (hW : (rest.map fun v => v.category).sum = W)
    (hf : rm.frames + 1 ≤ R.frames) (hlo : W + (mx' + 11) + rm.locals ≤ R.locals) (hc : cells + rm.cells ≤ R.cells) (hsl : slots + rm.slots ≤ R.slots)
    (G : ∀ v T' h', Pl p l e R s m args below meth c Z y bytes mx ret n0 T' h' (cells + rm.cells) (slots + rm.slots) → Qc v h' → Go p e below Q (T'.setTop (mkF m pc' Ls (v.toList ++ rest)))) : Go p e below Q (T.setTop (mkF m pc Ls stk)) := by
  obtain ⟨hd, rfl⟩ := hd; obtain ⟨B, locs, X, N, eT⟩ := id P
  obtain ⟨v, _, ⟨T', L', k', n'⟩, -, X', ⟨Lc, hQ, l', y'', z'⟩, stp⟩ := Jvm.LawKit.callS X P.hx (y := y') P.hown (mvT P.hZ w1) (mvT P.hZ w2) (mvT P.hZ w3) (mvT P.hZ w4) hy (backOf (W := W) (Q := fun v h L => Fr n0 L ∧ Qc v h) (M []) P.hZ w4 w3 hf hlo) (g := mkF m pc Ls stk) rfl (by rw [P.hml]; exact hmx) (argsL := argsL) (rest := rest) (lenOf pd hl) hs (by show 2 * 0 + _ ≤ W; omega) (P.dec hd) (fun _ _ => ⟨rfl, eT, hc, hsl⟩)
  dsimp only [Pt.U, Pt.locs, Pt.cells, Pt.slots] at X' l' y'' z' stp hQ
  subst l' y'' z'
  exact Go.of stp (G v T' T'.heap ⟨B, _, X', Fr.app N hQ.1, rfl⟩ hQ.2)
theorem g_special (P : Pl p l e R s m args below meth c Z y bytes mx ret n0 T h cells slots) {y' : MethodName} {bytes' : ByteArray} {mx' : Nat} {rm : Room} {Qc : Option Value → Heap → Prop} {index : Nat} {ps : List FieldType} {r : Option FieldType} (a : Addr) (argsL : List Value) {stk rest : List Value} {W : Nat}
    (hd : D bytes pc (.invokespecial index) 3 pc') (hin : y'.name = "<init>") (w1 : (Cond.methodLink y.cls index y').before a0 Z = true) (w2 : (Cond.instanceMethod y').before a0 Z = true) (w3 : (Cond.initialized y'.cls).before a0 Z = true) (w4 : (Cond.code y' bytes' mx' none).before a0 Z = true) (hy : y'.cls ≠ "java/lang/invoke/MethodHandle" ∧ y'.cls ≠ "java/lang/invoke/VarHandle")
    (M : Met l Z y' bytes' mx' none rm n0 (.ref a :: argsL).toArray h Qc) (pd : parseMethodDescriptor y'.desc = some ⟨ps, r⟩) (hl : argsL.length = ps.length) (hs : stk = argsL.reverse ++ .ref a :: rest) (hmx : Ls.size = mx) (hW : (rest.map fun v => v.category).sum = W)
    (hf : rm.frames + 1 ≤ R.frames) (hlo : W + (mx' + 11) + rm.locals ≤ R.locals) (hc : cells + rm.cells ≤ R.cells) (hsl : slots + rm.slots ≤ R.slots)
    (G : ∀ v T' h', Pl p l e R s m args below meth c Z y bytes mx ret n0 T' h' (cells + rm.cells) (slots + rm.slots) → Qc v h' → Go p e below Q (T'.setTop (mkF m pc' Ls (v.toList ++ rest)))) : Go p e below Q (T.setTop (mkF m pc Ls stk)) := by
  obtain ⟨hd, rfl⟩ := hd; obtain ⟨B, locs, X, N, eT⟩ := id P
  obtain ⟨v, _, ⟨T', L', k', n'⟩, -, X', ⟨Lc, hQ, l', y'', z'⟩, stp⟩ := X.specialBack P.hx (y := y') hin P.hown (mvT P.hZ w1) (mvT P.hZ w2) (mvT P.hZ w4) hy (backOf (W := W) (Q := fun v h L => Fr n0 L ∧ Qc v h) (M []) P.hZ w4 w3 hf hlo) (g := mkF m pc Ls stk) rfl (by rw [P.hml]; exact hmx) (Steps.refl _) (a := a) (argsL := argsL) (rest := rest) (lenOf pd hl) hs (by show 2 * 0 + _ ≤ W; omega) (P.dec hd) (fun _ _ => ⟨rfl, eT, hc, hsl⟩)
  dsimp only [Pt.U, Pt.locs, Pt.cells, Pt.slots] at X' l' y'' z' stp hQ
  subst l' y'' z'
  exact Go.tr stp (G v T' T'.heap ⟨B, _, X', Fr.app N hQ.1, rfl⟩ hQ.2)
theorem g_virtual (P : Pl p l e R s m args below meth c Z y bytes mx ret n0 T h cells slots) {y' : MethodName} {C : String} {bytes' : ByteArray} {mx' : Nat} {ret' : Option FieldType} {rm : Room} {Qc : Option Value → Heap → Prop} {index : Nat} {ps : List FieldType} {r : Option FieldType} (a : Addr) (argsL : List Value) {stk rest : List Value} {W : Nat}
    (hd : D bytes pc (.invokevirtual index) 3 pc') (w1 : (Cond.methodLink y.cls index y').before a0 Z = true) (w2 : (Cond.declares y').before a0 Z = true) (w3 : (Cond.selects C y' y').before a0 Z = true) (w4 : (Cond.instanceMethod y').before a0 Z = true) (w5 : (Cond.initialized y'.cls).before a0 Z = true) (w6 : (Cond.code y' bytes' mx' ret').before a0 Z = true) (hy : y'.cls ≠ "java/lang/invoke/MethodHandle" ∧ y'.cls ≠ "java/lang/invoke/VarHandle")
    (E : Exa Z h a C) (M : Met l Z y' bytes' mx' ret' rm n0 (.ref a :: argsL).toArray h Qc) (pd : parseMethodDescriptor y'.desc = some ⟨ps, r⟩) (hl : argsL.length = ps.length) (hs : stk = argsL.reverse ++ .ref a :: rest) (hmx : Ls.size = mx) (hW : (rest.map fun v => v.category).sum = W)
    (hf : rm.frames + 1 ≤ R.frames) (hlo : W + (mx' + 11) + rm.locals ≤ R.locals) (hc : cells + rm.cells ≤ R.cells) (hsl : slots + rm.slots ≤ R.slots)
    (G : ∀ v T' h', Pl p l e R s m args below meth c Z y bytes mx ret n0 T' h' (cells + rm.cells) (slots + rm.slots) → Qc v h' → Go p e below Q (T'.setTop (mkF m pc' Ls (v.toList ++ rest)))) : Go p e below Q (T.setTop (mkF m pc Ls stk)) := by
  obtain ⟨hd, rfl⟩ := hd; obtain ⟨B, locs, X, N, eT⟩ := id P
  obtain ⟨cq, kq, qa, qb, qc⟩ := isOf P.hZ eT E
  obtain ⟨v, _, ⟨T', L', k', n'⟩, -, X', ⟨Lc, hQ, l', y'', z'⟩, stp⟩ := X.virtualBack P.hx (y := y') (z := y') P.hown (mvT P.hZ w1) (mvT P.hZ w2) (notFace_of_selects (args := #[]) (mvT P.hZ w3)) (mvT P.hZ w3) (mvT P.hZ w4) hy (backOf (W := W) (Q := fun v h L => Fr n0 L ∧ Qc v h) (M []) P.hZ w6 w5 hf hlo) qa qc (g := mkF m pc Ls stk) rfl (by rw [P.hml]; exact hmx) (Steps.refl _) (argsL := argsL) (rest := rest) (lenOf pd hl) hs (by show 2 * 0 + _ ≤ W; omega) (P.dec hd) (fun _ _ => ⟨rfl, eT, hc, hsl⟩)
  dsimp only [Pt.U, Pt.locs, Pt.cells, Pt.slots] at X' l' y'' z' stp hQ
  subst l' y'' z'
  exact Go.tr stp (G v T' T'.heap ⟨B, _, X', Fr.app N hQ.1, rfl⟩ hQ.2)
end OwnGo
/-! OWN 2: small facts -/
section OwnSmall
variable {args : Array Value} {Z : State} {a b : Addr}
theorem ac_t (h : a = b) : XT.acmp .eq (.ref a) (.ref b) = true ∧ XT.acmp .ne (.ref a) (.ref b) = false := ⟨decide_eq_true (by rw [h]), decide_eq_false (fun q => q (by rw [h]))⟩
theorem ac_f (h : ¬ a = b) : XT.acmp .eq (.ref a) (.ref b) = false ∧ XT.acmp .ne (.ref a) (.ref b) = true := ⟨decide_eq_false (fun q => h (by cases q; rfl)), decide_eq_true (fun q => h (by cases q; rfl))⟩
theorem eqI {t : Term} {z : Int32} (h : (Cond.eq t (.int z)).value args Z none Z [] = some true) : t.eval args Z none [] Z = some (.int z) := Cond.eq_int (Cond.before_iff.mpr h) rfl
theorem dT {q : Prop} [Decidable q] (h : decide q = true) : q := of_decide_eq_true h
theorem nN (h : @Ne Nat a b) : a ≠ b := h
theorem ltN {n : Nat} (h : a < n) : @LT.lt Nat _ a n := h
theorem i32_of {i j : Int32} (h : i.toInt = j.toInt) : i = j := Int32.toInt_inj.mp h
theorem rem_mask (k n : Int32) (hn : 0 < n.toInt) : 0 ≤ ((k &&& 2147483647) % n).toInt ∧ ((k &&& 2147483647) % n).toInt < n.toInt := by
  rw [Jvm.Kit.i32_rem_nonneg (by rw [Jvm.Kit.i32_mask k 2147483647 (k := 31) (by decide) (by decide)]; exact Int.emod_nonneg _ (by decide))]
  exact ⟨Int.emod_nonneg _ (by omega), Int.emod_lt_of_pos _ hn⟩
theorem mask_nn (k : Int32) : ¬ (k &&& (2147483647 : Int32)) < 0 := by
  rw [Int32.lt_iff_toInt_lt, Jvm.Kit.i32_mask k 2147483647 (k := 31) (by decide) (by decide)]
  have : (0 : Int32).toInt = 0 := rfl
  have := Int.emod_nonneg k.toInt (show (2 ^ 31 : Int) ≠ 0 by decide)
  omega
theorem cases3 {i : Int32} (h : 0 ≤ i.toInt ∧ i.toInt < (3 : Int32).toInt) : i = 0 ∨ i = 1 ∨ i = 2 := by
  have h5 : (3 : Int32).toInt = 3 := rfl
  rcases (by omega : i.toInt = 0 ∨ i.toInt = 1 ∨ i.toInt = 2) with q | q | q
  · exact Or.inl (i32_of q)
  · exact Or.inr (Or.inl (i32_of q))
  · exact Or.inr (Or.inr (i32_of q))
theorem sta_keep {h h' : Heap} {C n d : String} {v : Value} {ws : List Addr} (F : Sta Z h C n d v) (K : Keep h h' ws) (q : ∀ x ∈ ws, ∃ c : Cell, h[x]? = some c ∧ c.vm.isStatics = false) : Sta Z h' C n d v := by
  obtain ⟨cf, i, k, f, st, cell, h1, h2, h3, h4, h5, h6, h7⟩ := F
  refine ⟨cf, i, k, f, st, cell, h1, h2, h3, h4, K.2.1 st cell h5 fun r => ?_, h6, h7⟩
  obtain ⟨c, q1, q2⟩ := q st r
  cases h5.symm.trans q1
  rw [h6] at q2; cases q2
theorem plain1 {h : Heap} {C : String} (A : Exa Z h a C) : ∀ x ∈ [a], ∃ c : Cell, h[x]? = some c ∧ c.vm.isStatics = false := fun x hx => by
  cases List.mem_singleton.mp hx; obtain ⟨c, _, q, -, -, r, -⟩ := A; exact ⟨c, q, r⟩
theorem cases4 {i : Int32} (h : 0 ≤ i.toInt ∧ i.toInt < (4 : Int32).toInt) : i = 0 ∨ i = 1 ∨ i = 2 ∨ i = 3 := by
  have h5 : (4 : Int32).toInt = 4 := rfl
  rcases (by omega : i.toInt = 0 ∨ i.toInt = 1 ∨ i.toInt = 2 ∨ i.toInt = 3) with q | q | q | q
  · exact Or.inl (i32_of q)
  · exact Or.inr (Or.inl (i32_of q))
  · exact Or.inr (Or.inr (Or.inl (i32_of q)))
  · exact Or.inr (Or.inr (Or.inr (i32_of q)))
theorem cases5 {i : Int32} (h : 0 ≤ i.toInt ∧ i.toInt < (5 : Int32).toInt) : i = 0 ∨ i = 1 ∨ i = 2 ∨ i = 3 ∨ i = 4 := by
  have h5 : (5 : Int32).toInt = 5 := rfl
  rcases (by omega : i.toInt = 0 ∨ i.toInt = 1 ∨ i.toInt = 2 ∨ i.toInt = 3 ∨ i.toInt = 4) with q | q | q | q | q
  · exact Or.inl (i32_of q)
  · exact Or.inr (Or.inl (i32_of q))
  · exact Or.inr (Or.inr (Or.inl (i32_of q)))
  · exact Or.inr (Or.inr (Or.inr (Or.inl (i32_of q))))
  · exact Or.inr (Or.inr (Or.inr (Or.inr (i32_of q))))
theorem cases7 {i : Int32} (h : 0 ≤ i.toInt ∧ i.toInt < (7 : Int32).toInt) : i = 0 ∨ i = 1 ∨ i = 2 ∨ i = 3 ∨ i = 4 ∨ i = 5 ∨ i = 6 := by
  have h5 : (7 : Int32).toInt = 7 := rfl
  rcases (by omega : i.toInt = 0 ∨ i.toInt = 1 ∨ i.toInt = 2 ∨ i.toInt = 3 ∨ i.toInt = 4 ∨ i.toInt = 5 ∨ i.toInt = 6) with q | q | q | q | q | q | q
  · exact Or.inl (i32_of q)
  · exact Or.inr (Or.inl (i32_of q))
  · exact Or.inr (Or.inr (Or.inl (i32_of q)))
  · exact Or.inr (Or.inr (Or.inr (Or.inl (i32_of q))))
  · exact Or.inr (Or.inr (Or.inr (Or.inr (Or.inl (i32_of q)))))
  · exact Or.inr (Or.inr (Or.inr (Or.inr (Or.inr (Or.inl (i32_of q))))))
  · exact Or.inr (Or.inr (Or.inr (Or.inr (Or.inr (Or.inr (i32_of q))))))
end OwnSmall
/-! OWN 3: more steps: longs, null tests, a switch, arrays as lists, casts -/
section OwnMore
variable {p : Program} {l : Launch} {e : Env} {R : Room} {s : State} {m : MethodId} {args : Array Value} {below : List Frame} {meth : Method} {c : Code} {Z : State} {y : MethodName} {bytes : ByteArray} {mx : Nat} {ret : Option FieldType} {n0 : Nat} {T T' : State} {h h' : Heap} {cells slots : Nat} {Q : Outcome → State → Prop} {pc pc' : Nat} {Ls : Array Slot} {st : List Value} {a0 : Array Value}
theorem g_sipush (P : Pl p l e R s m args below meth c Z y bytes mx ret n0 T h cells slots) {i : Int} {v : Int32} (hd : D bytes pc (.sipush i) 3 pc') (hv : (Int16.ofInt i).toInt32 = v) (G : Go p e below Q (T.setTop (mkF m pc' Ls (.int v :: st)))) : Go p e below Q (T.setTop (mkF m pc Ls st)) := by
  obtain ⟨hd, rfl⟩ := hd; subst hv; exact Go.of (fun _ => XS.sipush P.here P.hx rfl (P.dec hd)) G
theorem g_lconst (P : Pl p l e R s m args below meth c Z y bytes mx ret n0 T h cells slots) {k : Fin 2} {v : Int64} (hd : D bytes pc (.lconst k) 1 pc') (hv : Int64.ofNat k = v) (G : Go p e below Q (T.setTop (mkF m pc' Ls (.long v :: st)))) : Go p e below Q (T.setTop (mkF m pc Ls st)) := by
  obtain ⟨hd, rfl⟩ := hd; subst hv; exact Go.of (fun _ => XT.lconst P.here P.hx rfl (P.dec hd)) G
theorem g_ldc2 (P : Pl p l e R s m args below meth c Z y bytes mx ret n0 T h cells slots) {index : Nat} {v : Int64} (hd : D bytes pc (.ldc2_w index) 3 pc') (w : (Cond.constantLong y.cls index v).before a0 Z = true) (G : Go p e below Q (T.setTop (mkF m pc' Ls (.long v :: st)))) : Go p e below Q (T.setTop (mkF m pc Ls st)) := by
  obtain ⟨hd, rfl⟩ := hd; obtain ⟨-, _, X, -⟩ := id P; exact Go.of (fun _ => X.ldc2J P.hx P.hown (mvT P.hZ w) rfl (P.dec hd)) G
theorem g_ladd (P : Pl p l e R s m args below meth c Z y bytes mx ret n0 T h cells slots) {x z : Int64} (hd : D bytes pc .ladd 1 pc') (G : Go p e below Q (T.setTop (mkF m pc' Ls (.long (x + z) :: st)))) : Go p e below Q (T.setTop (mkF m pc Ls (.long z :: .long x :: st))) := by
  obtain ⟨hd, rfl⟩ := hd; exact Go.of (fun _ => XT.ladd P.here P.hx rfl (P.dec hd) rfl) G
theorem g_lsub (P : Pl p l e R s m args below meth c Z y bytes mx ret n0 T h cells slots) {x z : Int64} (hd : D bytes pc .lsub 1 pc') (G : Go p e below Q (T.setTop (mkF m pc' Ls (.long (x - z) :: st)))) : Go p e below Q (T.setTop (mkF m pc Ls (.long z :: .long x :: st))) := by
  obtain ⟨hd, rfl⟩ := hd; exact Go.of (fun _ => XT.lsub P.here P.hx rfl (P.dec hd) rfl) G
theorem g_lcmp (P : Pl p l e R s m args below meth c Z y bytes mx ret n0 T h cells slots) {x z : Int64} (hd : D bytes pc .lcmp 1 pc') (G : Go p e below Q (T.setTop (mkF m pc' Ls (.int (XT.cmpL x z) :: st)))) : Go p e below Q (T.setTop (mkF m pc Ls (.long z :: .long x :: st))) := by
  obtain ⟨hd, rfl⟩ := hd; exact Go.of (fun _ => XT.lcmp P.here P.hx rfl (P.dec hd) rfl) G
theorem g_i2l (P : Pl p l e R s m args below meth c Z y bytes mx ret n0 T h cells slots) {x : Int32} (hd : D bytes pc .i2l 1 pc') (G : Go p e below Q (T.setTop (mkF m pc' Ls (.long (x).toInt64 :: st)))) : Go p e below Q (T.setTop (mkF m pc Ls (.int x :: st))) := by
  obtain ⟨hd, rfl⟩ := hd; exact Go.of (fun _ => XT.i2l P.here P.hx rfl (P.dec hd) rfl) G
theorem g_l2i (P : Pl p l e R s m args below meth c Z y bytes mx ret n0 T h cells slots) {x : Int64} (hd : D bytes pc .l2i 1 pc') (G : Go p e below Q (T.setTop (mkF m pc' Ls (.int (x).toInt32 :: st)))) : Go p e below Q (T.setTop (mkF m pc Ls (.long x :: st))) := by
  obtain ⟨hd, rfl⟩ := hd; exact Go.of (fun _ => XT.l2i P.here P.hx rfl (P.dec hd) rfl) G
theorem g_i2b (P : Pl p l e R s m args below meth c Z y bytes mx ret n0 T h cells slots) {x : Int32} (hd : D bytes pc .i2b 1 pc') (G : Go p e below Q (T.setTop (mkF m pc' Ls (.int (x).toInt8.toInt32 :: st)))) : Go p e below Q (T.setTop (mkF m pc Ls (.int x :: st))) := by
  obtain ⟨hd, rfl⟩ := hd; exact Go.of (fun _ => XT.i2b P.here P.hx rfl (P.dec hd) rfl) G
theorem g_idiv (P : Pl p l e R s m args below meth c Z y bytes mx ret n0 T h cells slots) {x z v : Int32} (hd : D bytes pc .idiv 1 pc') (hz : z ≠ 0) (hv : x / z = v) (G : Go p e below Q (T.setTop (mkF m pc' Ls (.int v :: st)))) : Go p e below Q (T.setTop (mkF m pc Ls (.int z :: .int x :: st))) := by
  obtain ⟨hd, rfl⟩ := hd; subst hv; exact Go.of (fun _ => XS.idiv P.here P.hx rfl (P.dec hd) rfl hz) G
theorem g_ior (P : Pl p l e R s m args below meth c Z y bytes mx ret n0 T h cells slots) {x z v : Int32} (hd : D bytes pc .ior 1 pc') (hv : x ||| z = v) (G : Go p e below Q (T.setTop (mkF m pc' Ls (.int v :: st)))) : Go p e below Q (T.setTop (mkF m pc Ls (.int z :: .int x :: st))) := by
  obtain ⟨hd, rfl⟩ := hd; subst hv; exact Go.of (fun _ => XT.ior P.here P.hx rfl (P.dec hd) rfl) G
theorem g_ixor (P : Pl p l e R s m args below meth c Z y bytes mx ret n0 T h cells slots) {x z v : Int32} (hd : D bytes pc .ixor 1 pc') (hv : x ^^^ z = v) (G : Go p e below Q (T.setTop (mkF m pc' Ls (.int v :: st)))) : Go p e below Q (T.setTop (mkF m pc Ls (.int z :: .int x :: st))) := by
  obtain ⟨hd, rfl⟩ := hd; subst hv; exact Go.of (fun _ => XT.ixor P.here P.hx rfl (P.dec hd) rfl) G
theorem g_ishl (P : Pl p l e R s m args below meth c Z y bytes mx ret n0 T h cells slots) {x z v : Int32} (hd : D bytes pc .ishl 1 pc') (hv : x <<< (z &&& 31) = v) (G : Go p e below Q (T.setTop (mkF m pc' Ls (.int v :: st)))) : Go p e below Q (T.setTop (mkF m pc Ls (.int z :: .int x :: st))) := by
  obtain ⟨hd, rfl⟩ := hd; subst hv; exact Go.of (fun _ => XT.ishl P.here P.hx rfl (P.dec hd) rfl) G
theorem g_ishr (P : Pl p l e R s m args below meth c Z y bytes mx ret n0 T h cells slots) {x z v : Int32} (hd : D bytes pc .ishr 1 pc') (hv : x >>> (z &&& 31) = v) (G : Go p e below Q (T.setTop (mkF m pc' Ls (.int v :: st)))) : Go p e below Q (T.setTop (mkF m pc Ls (.int z :: .int x :: st))) := by
  obtain ⟨hd, rfl⟩ := hd; subst hv; exact Go.of (fun _ => XT.ishr P.here P.hx rfl (P.dec hd) rfl) G
theorem g_dupX1 (P : Pl p l e R s m args below meth c Z y bytes mx ret n0 T h cells slots) {x z : Value} (hd : D bytes pc .dup_x1 1 pc') (hc : x.category = 1) (hc' : z.category = 1) (G : Go p e below Q (T.setTop (mkF m pc' Ls (x :: z :: x :: st)))) : Go p e below Q (T.setTop (mkF m pc Ls (x :: z :: st))) := by
  obtain ⟨hd, rfl⟩ := hd; exact Go.of (fun _ => XT.dupX1 P.here P.hx rfl (P.dec hd) rfl hc hc') G
theorem g_dup2 (P : Pl p l e R s m args below meth c Z y bytes mx ret n0 T h cells slots) {x z : Value} (hd : D bytes pc .dup2 1 pc') (hc : x.category = 1) (hc' : z.category = 1) (G : Go p e below Q (T.setTop (mkF m pc' Ls (x :: z :: x :: z :: st)))) : Go p e below Q (T.setTop (mkF m pc Ls (x :: z :: st))) := by
  obtain ⟨hd, rfl⟩ := hd; exact Go.of (fun _ => XT.dup2 P.here P.hx rfl (P.dec hd) rfl hc hc') G
theorem g_ifnullYes (P : Pl p l e R s m args below meth c Z y bytes mx ret n0 T h cells slots) {o : Int} {q : Nat} (hd : D bytes pc (.ifnull o) 3 q) (pc' : Nat) (ho : 0 ≤ (pc : Int) + o) (hp : ((pc : Int) + o).toNat = pc') (G : Go p e below Q (T.setTop (mkF m pc' Ls st))) : Go p e below Q (T.setTop (mkF m pc Ls (.null :: st))) := by
  obtain ⟨hd, -⟩ := hd; exact Go.of (fun _ => XS.ifnullYes P.here P.hx rfl rfl (P.dec hd) rfl ho hp) G
theorem g_ifnullNo (P : Pl p l e R s m args below meth c Z y bytes mx ret n0 T h cells slots) {o : Int} {b : Addr} (hd : D bytes pc (.ifnull o) 3 pc') (G : Go p e below Q (T.setTop (mkF m pc' Ls st))) : Go p e below Q (T.setTop (mkF m pc Ls (.ref b :: st))) := by
  obtain ⟨hd, rfl⟩ := hd; exact Go.of (fun _ => XS.ifnullNo P.here P.hx rfl (P.dec hd) rfl) G
theorem g_ifnonnullYes (P : Pl p l e R s m args below meth c Z y bytes mx ret n0 T h cells slots) {o : Int} {q : Nat} {b : Addr} (hd : D bytes pc (.ifnonnull o) 3 q) (pc' : Nat) (ho : 0 ≤ (pc : Int) + o) (hp : ((pc : Int) + o).toNat = pc') (G : Go p e below Q (T.setTop (mkF m pc' Ls st))) : Go p e below Q (T.setTop (mkF m pc Ls (.ref b :: st))) := by
  obtain ⟨hd, -⟩ := hd; exact Go.of (fun _ => XT.ifnonnullYes P.here P.hx rfl rfl (P.dec hd) rfl ho hp) G
theorem g_ifnonnullNo (P : Pl p l e R s m args below meth c Z y bytes mx ret n0 T h cells slots) {o : Int} (hd : D bytes pc (.ifnonnull o) 3 pc') (G : Go p e below Q (T.setTop (mkF m pc' Ls st))) : Go p e below Q (T.setTop (mkF m pc Ls (.null :: st))) := by
  obtain ⟨hd, rfl⟩ := hd; exact Go.of (fun _ => XT.ifnonnullNo P.here P.hx rfl (P.dec hd) rfl) G
theorem g_tsw (P : Pl p l e R s m args below meth c Z y bytes mx ret n0 T h cells slots) {dflt low high : Int} {offs : Array Int} {len q : Nat} {o : Int} {i : Int32} (hd : D bytes pc (.tableswitch dflt low high offs) len q) (hin : ¬ (i.toInt < low ∨ i.toInt > high)) (hoff : offs[(i.toInt - low).toNat]? = some o) (pc' : Nat) (ho : 0 ≤ (pc : Int) + o) (hp : ((pc : Int) + o).toNat = pc') (G : Go p e below Q (T.setTop (mkF m pc' Ls st))) : Go p e below Q (T.setTop (mkF m pc Ls (.int i :: st))) := by
  obtain ⟨hd, -⟩ := hd; exact Go.of (fun _ => XS.tswIn (g := mkF m pc Ls (.int i :: st)) P.here P.hx rfl rfl (P.dec hd) rfl hin hoff ho hp) G
/-! an array as a list of values -/
def AL (Z : State) (h : Heap) (a : Addr) (k : ClassId) (ty : FieldType) (vs : List Value) : Prop := ∃ c : Cell, Arr Z h a c ty ∧ c.cls = k ∧ c.slots.toList = vs ∧ vs.length < 2 ^ 31
variable {a b : Addr} {k : ClassId} {ty : FieldType} {vs : List Value} {sl : Nat} {v : Value} {ws : List Addr}
theorem AL.lt (A : AL Z h a k ty vs) : @LT.lt Nat _ a h.size := by obtain ⟨c, q, -⟩ := A; exact q.lt
theorem AL.len (A : AL Z h a k ty vs) : vs.length < 2 ^ 31 := by obtain ⟨c, -, -, -, q⟩ := A; exact q
theorem AL.ext (A : AL Z h a k ty vs) (E : Ext h h') : AL Z h' a k ty vs := by obtain ⟨c, q, r⟩ := A; exact ⟨c, q.ext E, r⟩
theorem AL.other (A : AL Z h b k ty vs) (W : Wr h h' a sl v) (q : b ≠ a) : AL Z h' b k ty vs := by obtain ⟨c, A, r⟩ := A; exact ⟨c, A.other W q, r⟩
theorem AL.keep (A : AL Z h a k ty vs) (K : Keep h h' ws) (q : a ∉ ws) : AL Z h' a k ty vs := by obtain ⟨c, A, r⟩ := A; exact ⟨c, ⟨K.2.1 a c A.1 q, A.2⟩, r⟩
theorem AL.new {n : Int32} (A : Arr Z h a (newA k ty n) ty) (q : ¬ n < 0) : AL Z h a k ty (List.replicate n.toNatClampNeg (defaultValue ty)) :=
  ⟨_, A, rfl, by show (Array.replicate _ _).toList = _; rw [Array.toList_replicate], by rw [List.length_replicate]; exact (back32 q).2⟩
theorem AL.set (A : AL Z h a k ty vs) (W : Wr h h' a sl v) : AL Z h' a k ty (vs.set sl v) := by
  obtain ⟨c, A, r1, r2, r3⟩ := A
  refine ⟨_, A.same W, r1, ?_, by rw [List.length_set]; exact r3⟩
  show (c.slots.setIfInBounds sl v).toList = _
  rw [Array.toList_setIfInBounds, r2]
abbrev Ix (j : Int32) (i : Nat) : Prop := ¬ j < 0 ∧ j.toNatClampNeg = i
theorem Ix.of {j : Int32} {i : Nat} (q : j.toInt = i) : Ix j i := ⟨by rw [Int32.lt_iff_toInt_lt]; have : (0 : Int32).toInt = 0 := rfl; omega, by simp only [Int32.toNatClampNeg]; omega⟩
theorem Ix.inb {j : Int32} {i : Nat} {c : Cell} (I : Ix j i) (q : i < c.slots.toList.length) : ¬ (j < 0 ∨ c.slots.size ≤ j.toNatClampNeg) := by
  rw [Array.length_toList] at q
  rintro (r | r)
  · exact I.1 r
  · rw [I.2] at r; omega
theorem lt_of_get {vs : List Value} {i : Nat} (q : vs[i]? = some v) : i < vs.length := (List.getElem?_eq_some_iff.mp q).1
theorem g_newarray (P : Pl p l e R s m args below meth c Z y bytes mx ret n0 T h cells slots) {aty : ArrayType} {n : Int32} (hd : D bytes pc (.newarray aty) 2 pc') (w : (Cond.arrayClass (newarray.typeOf aty)).before a0 Z = true) (hn : ¬ n < 0) (cap : Nat) (hcap : n.toNatClampNeg ≤ cap) (hb : cap * 8 ≤ 536870912) (hc : cells + 1 ≤ R.cells) (hl : slots + cap ≤ R.slots) (ad : String) (had : "[" ++ (newarray.typeOf aty).toString = ad)
    (G : ∀ T' h' a k, Pl p l e R s m args below meth c Z y bytes mx ret n0 T' h' (cells + 1) (slots + cap) → h.size = a → Ext h h' → AL Z h' a k (newarray.typeOf aty) (List.replicate n.toNatClampNeg (defaultValue (newarray.typeOf aty))) → Exa Z h' a ad → Go p e below Q (T'.setTop (mkF m pc' Ls (.ref a :: st)))) : Go p e below Q (T.setTop (mkF m pc Ls (.int n :: st))) := by
  obtain ⟨hd, rfl⟩ := hd; obtain ⟨B, locs, X, N, eT⟩ := id P
  obtain ⟨T', h', cA, X', e', E, A, Ex, stp⟩ := newPE X P.hx P.hZ w eT (g := mkF m pc Ls (.int n :: st)) rfl (P.dec hd) rfl hn hcap hb hc hl had
  exact Go.of stp (G T' h' _ cA ⟨B, locs, X', N, e'⟩ rfl E (AL.new A hn) Ex)
theorem g_anewarray (P : Pl p l e R s m args below meth c Z y bytes mx ret n0 T h cells slots) {C : String} {index : Nat} {n : Int32} (hd : D bytes pc (.anewarray index) 3 pc') (w1 : (Cond.classLink y.cls index C).before a0 Z = true) (w2 : (Cond.arrayOver (.object C)).before a0 Z = true) (hn : ¬ n < 0) (cap : Nat) (hcap : n.toNatClampNeg ≤ cap) (hb : cap * 8 ≤ 536870912) (hc : cells + 1 ≤ R.cells) (hl : slots + cap ≤ R.slots) (ad : String) (had : "[" ++ (FieldType.object C).toString = ad)
    (G : ∀ T' h' a k, Pl p l e R s m args below meth c Z y bytes mx ret n0 T' h' (cells + 1) (slots + cap) → h.size = a → Ext h h' → AL Z h' a k (.object C) (List.replicate n.toNatClampNeg .null) → Exa Z h' a ad → Ovr Z k C → Go p e below Q (T'.setTop (mkF m pc' Ls (.ref a :: st)))) : Go p e below Q (T.setTop (mkF m pc Ls (.int n :: st))) := by
  obtain ⟨hd, rfl⟩ := hd; obtain ⟨B, locs, X, N, eT⟩ := id P
  obtain ⟨T', h', cA, X', e', E, A, Ex, O, stp⟩ := newRE X P.hx P.hZ P.hown w1 w2 eT (g := mkF m pc Ls (.int n :: st)) rfl (P.dec hd) rfl hn hcap hb hc hl had
  exact Go.of stp (G T' h' _ cA ⟨B, locs, X', N, e'⟩ rfl E (AL.new A hn) Ex O)
theorem g_arraylength (P : Pl p l e R s m args below meth c Z y bytes mx ret n0 T h cells slots) {z : Int32} (hd : D bytes pc .arraylength 1 pc') (A : AL Z h a k ty vs) (hz : vs.length.toInt32 = z) (G : Go p e below Q (T.setTop (mkF m pc' Ls (.int z :: st)))) : Go p e below Q (T.setTop (mkF m pc Ls (.ref a :: st))) := by
  obtain ⟨hd, rfl⟩ := hd; obtain ⟨B, locs, X, N, eT⟩ := id P; obtain ⟨cl, A, q1, q2, q3⟩ := A
  subst hz q2
  refine Go.of (fun u => X.arraylength P.hx (by rw [eT]; exact A.1) (State.isArrayOf_alike P.hZ.alike A.2.1) (g := mkF m pc Ls (.ref a :: st)) rfl rfl (P.dec hd) u) ?_
  rw [Array.length_toList] at G
  exact G
theorem g_iaload (P : Pl p l e R s m args below meth c Z y bytes mx ret n0 T h cells slots) {j : Int32} {i : Nat} (hd : D bytes pc .iaload 1 pc') (A : AL Z h a k .int vs) (I : Ix j i) (hv : vs[i]? = some v) (G : Go p e below Q (T.setTop (mkF m pc' Ls (v :: st)))) : Go p e below Q (T.setTop (mkF m pc Ls (.int j :: .ref a :: st))) := by
  obtain ⟨hd, rfl⟩ := hd; obtain ⟨B, locs, X, N, eT⟩ := id P; obtain ⟨cl, A, q1, rfl, q3⟩ := A
  exact Go.of (fun u => X.iaload P.hx (by rw [eT]; exact A.1) (State.isArrayOf_alike P.hZ.alike A.2.1) A.2.2 (I.inb (lt_of_get hv)) (by rw [I.2, ← Array.getElem?_toList]; exact hv) (g := mkF m pc Ls (.int j :: .ref a :: st)) rfl rfl (P.dec hd) u) G
theorem g_baload (P : Pl p l e R s m args below meth c Z y bytes mx ret n0 T h cells slots) {j : Int32} {i : Nat} (hd : D bytes pc .baload 1 pc') (A : AL Z h a k .byte vs) (I : Ix j i) (hv : vs[i]? = some v) (G : Go p e below Q (T.setTop (mkF m pc' Ls (v :: st)))) : Go p e below Q (T.setTop (mkF m pc Ls (.int j :: .ref a :: st))) := by
  obtain ⟨hd, rfl⟩ := hd; obtain ⟨B, locs, X, N, eT⟩ := id P; obtain ⟨cl, A, q1, rfl, q3⟩ := A
  exact Go.of (fun u => X.baloadBytes P.hx (by rw [eT]; exact A.1) (State.isArrayOf_alike P.hZ.alike A.2.1) A.2.2 (I.inb (lt_of_get hv)) (by rw [I.2, ← Array.getElem?_toList]; exact hv) (g := mkF m pc Ls (.int j :: .ref a :: st)) rfl rfl (P.dec hd) u) G
theorem g_aaload (P : Pl p l e R s m args below meth c Z y bytes mx ret n0 T h cells slots) {j : Int32} {i : Nat} (hd : D bytes pc .aaload 1 pc') (A : AL Z h a k ty vs) (hty : ty.isReference = true) (I : Ix j i) (hv : vs[i]? = some v) (G : Go p e below Q (T.setTop (mkF m pc' Ls (v :: st)))) : Go p e below Q (T.setTop (mkF m pc Ls (.int j :: .ref a :: st))) := by
  obtain ⟨hd, rfl⟩ := hd; obtain ⟨B, locs, X, N, eT⟩ := id P; obtain ⟨cl, A, q1, rfl, q3⟩ := A
  exact Go.of (fun u => X.aaload P.hx (by rw [eT]; exact A.1) (State.isArrayOf_alike P.hZ.alike A.2.1) hty A.2.2 (I.inb (lt_of_get hv)) (by rw [I.2, ← Array.getElem?_toList]; exact hv) (g := mkF m pc Ls (.int j :: .ref a :: st)) rfl rfl (P.dec hd) u) G
theorem g_iastore (P : Pl p l e R s m args below meth c Z y bytes mx ret n0 T h cells slots) {j x : Int32} {i : Nat} (hd : D bytes pc .iastore 1 pc') (A : AL Z h a k .int vs) (I : Ix j i) (hi : i < vs.length) (ge : n0 ≤ a)
    (G : ∀ T' h', Pl p l e R s m args below meth c Z y bytes mx ret n0 T' h' cells slots → Wr h h' a i (.int x) → AL Z h' a k .int (vs.set i (.int x)) → Go p e below Q (T'.setTop (mkF m pc' Ls st))) : Go p e below Q (T.setTop (mkF m pc Ls (.int x :: .int j :: .ref a :: st))) := by
  obtain ⟨hd, rfl⟩ := hd; obtain ⟨B, locs, X, N, eT⟩ := id P; obtain ⟨cl, A', q1, q2, q3⟩ := id A
  obtain ⟨T', h', X', e', W, stp⟩ := stI X P.hx P.hZ eT A' (j := j) (x := x) (I.inb (by rw [q2]; exact hi)) (g := mkF m pc Ls (.int x :: .int j :: .ref a :: st)) rfl rfl (P.dec hd)
  rw [I.2] at W
  exact Go.of stp (G T' h' ⟨B, _, X', Fr.snoc X' N ge, e'⟩ W (A.set W))
theorem g_bastoreB (P : Pl p l e R s m args below meth c Z y bytes mx ret n0 T h cells slots) {j x w : Int32} {i : Nat} (hd : D bytes pc .bastore 1 pc') (A : AL Z h a k .byte vs) (I : Ix j i) (hi : i < vs.length) (ge : n0 ≤ a) (hw : x.toInt8.toInt32 = w)
    (G : ∀ T' h', Pl p l e R s m args below meth c Z y bytes mx ret n0 T' h' cells slots → Wr h h' a i (.int w) → AL Z h' a k .byte (vs.set i (.int w)) → Go p e below Q (T'.setTop (mkF m pc' Ls st))) : Go p e below Q (T.setTop (mkF m pc Ls (.int x :: .int j :: .ref a :: st))) := by
  obtain ⟨hd, rfl⟩ := hd; obtain ⟨B, locs, X, N, eT⟩ := id P; obtain ⟨cl, A', q1, q2, q3⟩ := id A
  obtain ⟨T', h', X', e', W, stp⟩ := stB X P.hx P.hZ eT A' (j := j) (x := x) (I.inb (by rw [q2]; exact hi)) (g := mkF m pc Ls (.int x :: .int j :: .ref a :: st)) rfl rfl (P.dec hd)
  rw [I.2] at W
  have W : Wr h h' a i (.int w) := hw ▸ W
  exact Go.of stp (G T' h' ⟨B, _, X', Fr.snoc X' N ge, e'⟩ W (A.set W))
theorem g_bastoreZ (P : Pl p l e R s m args below meth c Z y bytes mx ret n0 T h cells slots) {j x w : Int32} {i : Nat} (hd : D bytes pc .bastore 1 pc') (A : AL Z h a k .boolean vs) (I : Ix j i) (hi : i < vs.length) (ge : n0 ≤ a) (hw : x &&& 1 = w)
    (G : ∀ T' h', Pl p l e R s m args below meth c Z y bytes mx ret n0 T' h' cells slots → Wr h h' a i (.int w) → AL Z h' a k .boolean (vs.set i (.int w)) → Go p e below Q (T'.setTop (mkF m pc' Ls st))) : Go p e below Q (T.setTop (mkF m pc Ls (.int x :: .int j :: .ref a :: st))) := by
  obtain ⟨hd, rfl⟩ := hd; obtain ⟨B, locs, X, N, eT⟩ := id P; obtain ⟨cl, A', q1, q2, q3⟩ := id A
  obtain ⟨T', h', X', e', W, stp⟩ := stZ X P.hx P.hZ eT A' (j := j) (x := x) (I.inb (by rw [q2]; exact hi)) (g := mkF m pc Ls (.int x :: .int j :: .ref a :: st)) rfl rfl (P.dec hd)
  rw [I.2] at W
  have W : Wr h h' a i (.int w) := hw ▸ W
  exact Go.of stp (G T' h' ⟨B, _, X', Fr.snoc X' N ge, e'⟩ W (A.set W))
theorem g_aastore (P : Pl p l e R s m args below meth c Z y bytes mx ret n0 T h cells slots) {j : Int32} {i : Nat} (hd : D bytes pc .aastore 1 pc') (A : AL Z h a k ty vs) (hty : ty.isReference = true) (I : Ix j i) (hi : i < vs.length) (F : Sto Z h a v) (ge : n0 ≤ a)
    (G : ∀ T' h', Pl p l e R s m args below meth c Z y bytes mx ret n0 T' h' cells slots → Wr h h' a i v → AL Z h' a k ty (vs.set i v) → Go p e below Q (T'.setTop (mkF m pc' Ls st))) : Go p e below Q (T.setTop (mkF m pc Ls (v :: .int j :: .ref a :: st))) := by
  obtain ⟨hd, rfl⟩ := hd; obtain ⟨B, locs, X, N, eT⟩ := id P; obtain ⟨cl, A', q1, q2, q3⟩ := id A
  obtain ⟨T', h', X', e', W, stp⟩ := stR X P.hx P.hZ eT A' (j := j) (v := v) (I.inb (by rw [q2]; exact hi)) hty F (g := mkF m pc Ls (v :: .int j :: .ref a :: st)) rfl rfl (P.dec hd)
  rw [I.2] at W
  exact Go.of stp (G T' h' ⟨B, _, X', Fr.snoc X' N ge, e'⟩ W (A.set W))
theorem g_clone (P : Pl p l e R s m args below meth c Z y bytes mx ret n0 T h cells slots) {ad : String} {index : Nat} (hd : D bytes pc (.invokevirtual index) 3 pc')
    (w1 : (Cond.methodLink y.cls index ⟨ad, "clone", "()Ljava/lang/Object;"⟩).before a0 Z = true) (w2 : (Cond.sameMethod ad "java/lang/Object" "clone" "()Ljava/lang/Object;").before a0 Z = true) (w3 : (Cond.native ⟨"java/lang/Object", "clone", "()Ljava/lang/Object;"⟩).before a0 Z = true)
    (w4 : (Cond.instanceMethod ⟨"java/lang/Object", "clone", "()Ljava/lang/Object;"⟩).before a0 Z = true) (w5 : (Cond.selects ad ⟨ad, "clone", "()Ljava/lang/Object;"⟩ ⟨"java/lang/Object", "clone", "()Ljava/lang/Object;"⟩).before a0 Z = true) (w6 : (Cond.castable ad "java/lang/Cloneable").before a0 Z = true)
    (A : AL Z h a k ty vs) (E : Exa Z h a ad) (fit : ∀ v ∈ vs, fits ty v = true) (hs : Ls.size = mx) (hf : 1 ≤ R.frames) {W : Nat} (hW : (st.map fun v => v.category).sum = W) (hl : W + 14 ≤ R.locals) (cap : Nat) (hcap : vs.length ≤ cap) (hc : cells + 1 ≤ R.cells) (hsl : slots + cap ≤ R.slots)
    (G : ∀ T' h' b, Pl p l e R s m args below meth c Z y bytes mx ret n0 T' h' (cells + 1) (slots + cap) → h.size = b → Ext h h' → AL Z h' b k ty vs → Exa Z h' b ad → Go p e below Q (T'.setTop (mkF m pc' Ls (.ref b :: st)))) : Go p e below Q (T.setTop (mkF m pc Ls (.ref a :: st))) := by
  obtain ⟨hd, rfl⟩ := hd; obtain ⟨B, locs, X, N, eT⟩ := id P; obtain ⟨cl, A, q1, q2, q3⟩ := A
  subst q2
  have FC : FitC Z cl := fitC_of A fun i hi v hv => fit v (by rw [← Array.getElem?_toList] at hv; exact List.mem_of_getElem? hv)
  obtain ⟨T', h', X', e', E', A', Ex, stp⟩ := cloneA X P.hx P.hZ P.hown w1 w2 w3 w4 w5 w6 eT A E FC (g := mkF m pc Ls (.ref a :: st)) rfl (by rw [P.hml]; exact hs) rfl (P.dec hd) hf (W := W) (by show 2 * 0 + _ ≤ W; omega) hl (by rw [← Array.length_toList]; exact hcap) hc hsl
  exact Go.of stp (G T' h' _ ⟨B, locs, X', N, e'⟩ rfl E' ⟨_, A', q1, rfl, q3⟩ Ex)
theorem AL.sto {x : Addr} {C : String} (A : AL Z h a k ty vs) (O : Ovr Z k C) (I : Ins Z h x C true) : Sto Z h a (.ref x) := by obtain ⟨cl, A, q, -⟩ := A; exact Sto.ofV A q O I
theorem g_checkcast (P : Pl p l e R s m args below meth c Z y bytes mx ret n0 T h cells slots) {K : String} {index : Nat} (hd : D bytes pc (.checkcast index) 3 pc') (w : (Cond.classLink y.cls index K).before a0 Z = true) (F : Ins Z h a K true)
    (G : ∀ T', Pl p l e R s m args below meth c Z y bytes mx ret n0 T' h cells slots → Go p e below Q (T'.setTop (mkF m pc' Ls (.ref a :: st)))) : Go p e below Q (T.setTop (mkF m pc Ls (.ref a :: st))) := by
  obtain ⟨hd, rfl⟩ := hd; obtain ⟨B, locs, X, N, eT⟩ := id P
  obtain ⟨T', X', e', stp⟩ := castY X P.hx P.hZ P.hown w eT F (g := mkF m pc Ls (.ref a :: st)) rfl rfl (P.dec hd)
  exact Go.of stp (G T' ⟨B, locs, X', N, e'⟩)
theorem g_instYes (P : Pl p l e R s m args below meth c Z y bytes mx ret n0 T h cells slots) {K : String} {index : Nat} (hd : D bytes pc (.instanceof index) 3 pc') (w : (Cond.classLink y.cls index K).before a0 Z = true) (F : Ins Z h a K true)
    (G : ∀ T', Pl p l e R s m args below meth c Z y bytes mx ret n0 T' h cells slots → Go p e below Q (T'.setTop (mkF m pc' Ls (.int 1 :: st)))) : Go p e below Q (T.setTop (mkF m pc Ls (.ref a :: st))) := by
  obtain ⟨hd, rfl⟩ := hd; obtain ⟨B, locs, X, N, eT⟩ := id P
  obtain ⟨T', X', e', stp⟩ := instY X P.hx P.hZ P.hown w eT F (g := mkF m pc Ls (.ref a :: st)) rfl rfl (P.dec hd)
  exact Go.of stp (G T' ⟨B, locs, X', N, e'⟩)
theorem g_instNo (P : Pl p l e R s m args below meth c Z y bytes mx ret n0 T h cells slots) {K C : String} {index : Nat} (hd : D bytes pc (.instanceof index) 3 pc') (w : (Cond.classLink y.cls index K).before a0 Z = true) (E : Exa Z h a C) (F : ∃ c t, Z.vm.findClass C = some c ∧ Z.vm.findClass K = some t ∧ Z.vm.assignable c t = false)
    (G : ∀ T', Pl p l e R s m args below meth c Z y bytes mx ret n0 T' h cells slots → Go p e below Q (T'.setTop (mkF m pc' Ls (.int 0 :: st)))) : Go p e below Q (T.setTop (mkF m pc Ls (.ref a :: st))) := by
  obtain ⟨hd, rfl⟩ := hd; obtain ⟨B, locs, X, N, eT⟩ := id P
  obtain ⟨T', X', e', stp⟩ := instNo X P.hx P.hZ P.hown w eT E F (g := mkF m pc Ls (.ref a :: st)) rfl rfl (P.dec hd)
  exact Go.of stp (G T' ⟨B, locs, X', N, e'⟩)
theorem g_virtualUp (P : Pl p l e R s m args below meth c Z y bytes mx ret n0 T h cells slots) {y1 y' : MethodName} {C owner : String} {bytes' : ByteArray} {mx' : Nat} {ret' : Option FieldType} {rm : Room} {Qc : Option Value → Heap → Prop} {index : Nat} {ps : List FieldType} {r : Option FieldType} (a : Addr) (argsL : List Value) {stk rest : List Value} {W : Nat}
    (hd : D bytes pc (.invokevirtual index) 3 pc') (w1 : (Cond.methodLink y.cls index y1).before a0 Z = true) (w0 : (Cond.sameMethod y1.cls owner y1.name y1.desc).before a0 Z = true) (w2 : (Cond.declares ⟨owner, y1.name, y1.desc⟩).before a0 Z = true) (ho : owner ≠ "java/lang/invoke/MethodHandle" ∧ owner ≠ "java/lang/invoke/VarHandle") (w3 : (Cond.selects C y1 y').before a0 Z = true) (w4 : (Cond.instanceMethod y').before a0 Z = true) (w5 : (Cond.initialized y'.cls).before a0 Z = true) (w6 : (Cond.code y' bytes' mx' ret').before a0 Z = true)
    (E : Exa Z h a C) (M : Met l Z y' bytes' mx' ret' rm n0 (.ref a :: argsL).toArray h Qc) (pd : parseMethodDescriptor y1.desc = some ⟨ps, r⟩) (hl : argsL.length = ps.length) (hs : stk = argsL.reverse ++ .ref a :: rest) (hmx : Ls.size = mx) (hW : (rest.map fun v => v.category).sum = W)
    (hf : rm.frames + 1 ≤ R.frames) (hlo : W + (mx' + 11) + rm.locals ≤ R.locals) (hc : cells + rm.cells ≤ R.cells) (hsl : slots + rm.slots ≤ R.slots)
    (G : ∀ v T' h', Pl p l e R s m args below meth c Z y bytes mx ret n0 T' h' (cells + rm.cells) (slots + rm.slots) → Qc v h' → Go p e below Q (T'.setTop (mkF m pc' Ls (v.toList ++ rest)))) : Go p e below Q (T.setTop (mkF m pc Ls stk)) := by
  obtain ⟨hd, rfl⟩ := hd; obtain ⟨B, locs, X, N, eT⟩ := id P
  obtain ⟨cq, kq, qa, qb, qc⟩ := isOf P.hZ eT E
  obtain ⟨v, _, ⟨T', L', k', n'⟩, -, X', ⟨Lc, hQ, l', y'', z'⟩, stp⟩ := X.virtualBackUp P.hx (x := y1) (y := y') (owner := owner) P.hown (mvT P.hZ w1) (mvT P.hZ w0) (mvT P.hZ w2) ho (mvT P.hZ w3) (mvT P.hZ w4) (backOf (W := W) (Q := fun v h L => Fr n0 L ∧ Qc v h) (M []) P.hZ w6 w5 hf hlo) qa qc (g := mkF m pc Ls stk) rfl (by rw [P.hml]; exact hmx) (Steps.refl _) (argsL := argsL) (rest := rest) (lenOf pd hl) hs (by show 2 * 0 + _ ≤ W; omega) (P.dec hd) (fun _ _ => ⟨rfl, eT, hc, hsl⟩)
  dsimp only [Pt.U, Pt.locs, Pt.cells, Pt.slots] at X' l' y'' z' stp hQ
  subst l' y'' z'
  exact Go.tr stp (G v T' T'.heap ⟨B, _, X', Fr.app N hQ.1, rfl⟩ hQ.2)
end OwnMore
/-! OWN 4: what lies below an address stays; arrays of arrays; an array of the start -/
section OwnBelow
variable {p : Program} {l : Launch} {e : Env} {R : Room} {s : State} {m : MethodId} {args : Array Value} {below : List Frame} {meth : Method} {c : Code} {Z : State} {y : MethodName} {bytes : ByteArray} {mx : Nat} {ret : Option FieldType} {n0 : Nat} {T T' : State} {h h' h'' : Heap} {cells slots : Nat} {Q : Outcome → State → Prop} {pc pc' : Nat} {Ls : Array Slot} {st : List Value} {a0 : Array Value}
variable {a b : Addr} {k : ClassId} {ty : FieldType} {vs : List Value} {sl : Nat} {v : Value} {ws : List Addr} {n1 : Nat} {C n d : String}
def Below (n1 : Nat) (h h' : Heap) : Prop := h.size ≤ h'.size ∧ ∀ (x : Addr) (c : Cell), x < n1 → h[x]? = some c → h'[x]? = some c
theorem Below.refl : Below n1 h h := ⟨Nat.le_refl _, fun _ _ _ q => q⟩
theorem Below.trans (B : Below n1 h h') (B' : Below n1 h' h'') : Below n1 h h'' := ⟨Nat.le_trans B.1 B'.1, fun x c q r => B'.2 x c q (B.2 x c q r)⟩
theorem Below.ext (B : Below n1 h h') (E : Ext h' h'') : Below n1 h h'' := ⟨Nat.le_trans B.1 E.1, fun x c q r => E.2 x c (B.2 x c q r)⟩
theorem Below.wr (B : Below n1 h h') (W : Wr h' h'' a sl v) (q : n1 ≤ a) : Below n1 h h'' := by
  refine ⟨by rw [W.size]; exact B.1, fun x c r t => ?_⟩
  obtain ⟨c', e1, -, -, -, e5, -⟩ := wr_at W (B.2 x c r t)
  rw [← e5 (nN (by have := ltN r; omega))]; exact e1
theorem Below.keep (B : Below n1 h h') (K : Keep h' h'' ws) (q : ∀ x ∈ ws, n1 ≤ x) : Below n1 h h'' :=
  ⟨Nat.le_trans B.1 K.1, fun x c r t => K.2.1 x c (B.2 x c r t) fun z => absurd (q x z) (Nat.not_le.mpr r)⟩
theorem Below.down (B : Below n1 h h') {n2 : Nat} (q : n2 ≤ n1) : Below n2 h h' := ⟨B.1, fun x c r t => B.2 x c (Nat.lt_of_lt_of_le r q) t⟩
theorem ext_below {h0 : Heap} (E : Ext h0 h) (B : Below n1 h h') (q : h0.size ≤ n1) : Ext h0 h' := ⟨Nat.le_trans E.1 B.1, fun x c r => B.2 x c (Nat.lt_of_lt_of_le (Array.getElem?_eq_some_iff.mp r).1 q) (E.2 x c r)⟩
theorem ext_wr {h0 : Heap} (E : Ext h0 h) (W : Wr h h' a sl v) (q : h0.size ≤ a) : Ext h0 h' := ext_below E (Below.refl.wr W (Nat.le_refl a)) q
theorem ext_trans {h0 : Heap} (E : Ext h0 h) (E' : Ext h h') : Ext h0 h' := ⟨Nat.le_trans E.1 E'.1, fun x c r => E'.2 x c (E.2 x c r)⟩
theorem ext_refl : Ext h h := ⟨Nat.le_refl _, fun _ _ q => q⟩
theorem AL.blw (A : AL Z h a k ty vs) (B : Below n1 h h') (q : a < n1) : AL Z h' a k ty vs := by obtain ⟨c, A, r⟩ := A; exact ⟨c, ⟨B.2 a c q A.1, A.2⟩, r⟩
theorem exa_below (A : Exa Z h a C) (B : Below n1 h h') (q : a < n1) : Exa Z h' a C := by obtain ⟨c, k, h1, r⟩ := A; exact ⟨c, k, B.2 a c q h1, r⟩
theorem fld_below (A : Fld Z h a C n d v) (B : Below n1 h h') (q : a < n1) : Fld Z h' a C n d v := by obtain ⟨c, cf, k, i, f, h1, r⟩ := A; exact ⟨c, cf, k, i, f, B.2 a c q h1, r⟩
theorem AL.stoA {x : Addr} {C : String} {ty' : FieldType} (A : AL Z h a k ty vs) (O : OvrA Z k ty' C) (I : Ins Z h x C true) : Sto Z h a (.ref x) := by obtain ⟨cl, A, q, -⟩ := A; exact Sto.ofVA A q O I
theorem g_anewarrayA (P : Pl p l e R s m args below meth c Z y bytes mx ret n0 T h cells slots) {C : String} {index : Nat} {n : Int32} (hd : D bytes pc (.anewarray index) 3 pc') (hC : (FieldType.array ty).toString = C) (w1 : (Cond.classLink y.cls index C).before a0 Z = true) (w2 : (Cond.arrayOver (.array ty)).before a0 Z = true) (hn : ¬ n < 0) (cap : Nat) (hcap : n.toNatClampNeg ≤ cap) (hb : cap * 8 ≤ 536870912) (hc : cells + 1 ≤ R.cells) (hl : slots + cap ≤ R.slots) (ad : String) (had : "[" ++ C = ad)
    (G : ∀ T' h' a k, Pl p l e R s m args below meth c Z y bytes mx ret n0 T' h' (cells + 1) (slots + cap) → h.size = a → Ext h h' → AL Z h' a k (.array ty) (List.replicate n.toNatClampNeg .null) → Exa Z h' a ad → OvrA Z k ty C → Go p e below Q (T'.setTop (mkF m pc' Ls (.ref a :: st)))) : Go p e below Q (T.setTop (mkF m pc Ls (.int n :: st))) := by
  obtain ⟨hd, rfl⟩ := hd; obtain ⟨B, locs, X, N, eT⟩ := id P
  obtain ⟨T', h', cA, X', e', E, A, Ex, O, stp⟩ := newRA X P.hx P.hZ P.hown hC w1 w2 eT (g := mkF m pc Ls (.int n :: st)) rfl (P.dec hd) rfl hn hcap hb hc hl had
  exact Go.of stp (G T' h' _ cA ⟨B, locs, X', N, e'⟩ rfl E (AL.new A hn) Ex O)
theorem al_start {t : Term} {z : Int32} {cl : Cell} (ev : t.eval args Z none [] Z = some (.ref a)) (A : Arr Z Z.heap a cl ty) (hl : (Term.length t).eval args Z none [] Z = some (.int z)) : AL Z Z.heap a cl.cls ty cl.slots.toList ∧ cl.slots.toList.length.toInt32 = z := by
  obtain ⟨sd, SA, hev, harr, -⟩ := Term.length_spec hl
  cases ev.symm.trans hev
  have h31 := SBG.length_lt hev harr hl
  have e1 : (Term.length t).eval args Z none [] Z = some (.int (Int32.ofNat SA.slots.size)) := by simp [Term.eval, hev, harr, h31]
  have e2 : Int32.ofNat SA.slots.size = z := by have q := Option.some.inj (e1.symm.trans hl); cases q; rfl
  cases harr.symm.trans (A.fin (Vm.Alike.refl _))
  exact ⟨⟨_, A, rfl, rfl, by rw [Array.length_toList]; exact h31⟩, by rw [Array.length_toList]; exact e2⟩
end OwnBelow
theorem d0_0 : D code 0 (.iconst 5) 1 1 := ⟨at_0, rfl⟩
theorem d0_1 : D code 1 (.anewarray 7) 3 4 := ⟨at_1, rfl⟩
theorem d0_4 : D code 4 (.dup) 1 5 := ⟨at_4, rfl⟩
theorem d0_5 : D code 5 (.iconst 0) 1 6 := ⟨at_5, rfl⟩
theorem d0_6 : D code 6 (.getstatic 9) 3 9 := ⟨at_6, rfl⟩
theorem d0_9 : D code 9 (.aastore) 1 10 := ⟨at_9, rfl⟩
theorem d0_10 : D code 10 (.dup) 1 11 := ⟨at_10, rfl⟩
theorem d0_11 : D code 11 (.iconst 1) 1 12 := ⟨at_11, rfl⟩
theorem d0_12 : D code 12 (.getstatic 13) 3 15 := ⟨at_12, rfl⟩
theorem d0_15 : D code 15 (.aastore) 1 16 := ⟨at_15, rfl⟩
theorem d0_16 : D code 16 (.dup) 1 17 := ⟨at_16, rfl⟩
theorem d0_17 : D code 17 (.iconst 2) 1 18 := ⟨at_17, rfl⟩
theorem d0_18 : D code 18 (.getstatic 16) 3 21 := ⟨at_18, rfl⟩
theorem d0_21 : D code 21 (.aastore) 1 22 := ⟨at_21, rfl⟩
theorem d0_22 : D code 22 (.dup) 1 23 := ⟨at_22, rfl⟩
theorem d0_23 : D code 23 (.iconst 3) 1 24 := ⟨at_23, rfl⟩
theorem d0_24 : D code 24 (.getstatic 19) 3 27 := ⟨at_24, rfl⟩
theorem d0_27 : D code 27 (.aastore) 1 28 := ⟨at_27, rfl⟩
theorem d0_28 : D code 28 (.dup) 1 29 := ⟨at_28, rfl⟩
theorem d0_29 : D code 29 (.iconst 4) 1 30 := ⟨at_29, rfl⟩
theorem d0_30 : D code 30 (.getstatic 22) 3 33 := ⟨at_30, rfl⟩
theorem d0_33 : D code 33 (.aastore) 1 34 := ⟨at_33, rfl⟩
theorem d0_34 : D code 34 (.astore 5) 2 36 := ⟨at_34, rfl⟩
theorem d0_36 : D code 36 (.iload_n 1) 1 37 := ⟨at_36, rfl⟩
theorem d0_37 : D code 37 (.sipush 255) 3 40 := ⟨at_37, rfl⟩
theorem d0_40 : D code 40 (.iand) 1 41 := ⟨at_40, rfl⟩
theorem d0_41 : D code 41 (.iconst 5) 1 42 := ⟨at_41, rfl⟩
theorem d0_42 : D code 42 (.irem) 1 43 := ⟨at_42, rfl⟩
theorem d0_43 : D code 43 (.istore 6) 2 45 := ⟨at_43, rfl⟩
theorem d0_45 : D code 45 (.iload_n 1) 1 46 := ⟨at_45, rfl⟩
theorem d0_46 : D code 46 (.bipush 8) 2 48 := ⟨at_46, rfl⟩
theorem d0_48 : D code 48 (.iushr) 1 49 := ⟨at_48, rfl⟩
theorem d0_49 : D code 49 (.sipush 255) 3 52 := ⟨at_49, rfl⟩
theorem d0_52 : D code 52 (.iand) 1 53 := ⟨at_52, rfl⟩
theorem d0_53 : D code 53 (.iconst 5) 1 54 := ⟨at_53, rfl⟩
theorem d0_54 : D code 54 (.irem) 1 55 := ⟨at_54, rfl⟩
theorem d0_55 : D code 55 (.istore 7) 2 57 := ⟨at_55, rfl⟩
theorem d0_57 : D code 57 (.iload_n 1) 1 58 := ⟨at_57, rfl⟩
theorem d0_58 : D code 58 (.bipush 16) 2 60 := ⟨at_58, rfl⟩
theorem d0_60 : D code 60 (.iushr) 1 61 := ⟨at_60, rfl⟩
theorem d0_61 : D code 61 (.sipush 255) 3 64 := ⟨at_61, rfl⟩
theorem d0_64 : D code 64 (.iand) 1 65 := ⟨at_64, rfl⟩
theorem d0_65 : D code 65 (.iconst 5) 1 66 := ⟨at_65, rfl⟩
theorem d0_66 : D code 66 (.irem) 1 67 := ⟨at_66, rfl⟩
theorem d0_67 : D code 67 (.istore 8) 2 69 := ⟨at_67, rfl⟩
theorem d0_69 : D code 69 (.iload_n 0) 1 70 := ⟨at_69, rfl⟩
theorem d0_70 : D code 70 (.iconst 1) 1 71 := ⟨at_70, rfl⟩
theorem d0_71 : D code 71 (.iand) 1 72 := ⟨at_71, rfl⟩
theorem d0_72 : D code 72 (.ifCond .eq 7) 3 75 := ⟨at_72, rfl⟩
theorem d0_75 : D code 75 (.iconst 1) 1 76 := ⟨at_75, rfl⟩
theorem d0_76 : D code 76 (.goto 4) 3 79 := ⟨at_76, rfl⟩
theorem d0_79 : D code 79 (.iconst 0) 1 80 := ⟨at_79, rfl⟩
theorem d0_80 : D code 80 (.istore 9) 2 82 := ⟨at_80, rfl⟩
theorem d0_82 : D code 82 (.iload_n 0) 1 83 := ⟨at_82, rfl⟩
theorem d0_83 : D code 83 (.iconst 2) 1 84 := ⟨at_83, rfl⟩
theorem d0_84 : D code 84 (.iand) 1 85 := ⟨at_84, rfl⟩
theorem d0_85 : D code 85 (.ifCond .eq 7) 3 88 := ⟨at_85, rfl⟩
theorem d0_88 : D code 88 (.iconst 1) 1 89 := ⟨at_88, rfl⟩
theorem d0_89 : D code 89 (.goto 4) 3 92 := ⟨at_89, rfl⟩
theorem d0_92 : D code 92 (.iconst 0) 1 93 := ⟨at_92, rfl⟩
theorem d0_93 : D code 93 (.istore 10) 2 95 := ⟨at_93, rfl⟩
theorem d0_95 : D code 95 (.iload 9) 2 97 := ⟨at_95, rfl⟩
theorem d0_97 : D code 97 (.ifCond .eq 23) 3 100 := ⟨at_97, rfl⟩
theorem d0_100 : D code 100 (.iload 10) 2 102 := ⟨at_100, rfl⟩
theorem d0_102 : D code 102 (.ifCond .eq 18) 3 105 := ⟨at_102, rfl⟩
theorem d0_105 : D code 105 (.iload 6) 2 107 := ⟨at_105, rfl⟩
theorem d0_107 : D code 107 (.iload 7) 2 109 := ⟨at_107, rfl⟩
theorem d0_109 : D code 109 (.if_icmp .ne 11) 3 112 := ⟨at_109, rfl⟩
theorem d0_112 : D code 112 (.iload_n 3) 1 113 := ⟨at_112, rfl⟩
theorem d0_113 : D code 113 (.iload_n 2) 1 114 := ⟨at_113, rfl⟩
theorem d0_114 : D code 114 (.if_icmp .gt 6) 3 117 := ⟨at_114, rfl⟩
theorem d0_117 : D code 117 (.iconst 0) 1 118 := ⟨at_117, rfl⟩
theorem d0_118 : D code 118 (.istore 10) 2 120 := ⟨at_118, rfl⟩
theorem d0_120 : D code 120 (.new 25) 3 123 := ⟨at_120, rfl⟩
theorem d0_123 : D code 123 (.dup) 1 124 := ⟨at_123, rfl⟩
theorem d0_124 : D code 124 (.invokespecial 27) 3 127 := ⟨at_124, rfl⟩
theorem d0_127 : D code 127 (.astore 11) 2 129 := ⟨at_127, rfl⟩
theorem d0_129 : D code 129 (.iload 9) 2 131 := ⟨at_129, rfl⟩
theorem d0_131 : D code 131 (.ifCond .eq 14) 3 134 := ⟨at_131, rfl⟩
theorem d0_134 : D code 134 (.aload 11) 2 136 := ⟨at_134, rfl⟩
theorem d0_136 : D code 136 (.aload 5) 2 138 := ⟨at_136, rfl⟩
theorem d0_138 : D code 138 (.iload 6) 2 140 := ⟨at_138, rfl⟩
theorem d0_140 : D code 140 (.aaload) 1 141 := ⟨at_140, rfl⟩
theorem d0_141 : D code 141 (.iload_n 2) 1 142 := ⟨at_141, rfl⟩
theorem d0_142 : D code 142 (.invokevirtual 28) 3 145 := ⟨at_142, rfl⟩
theorem d0_145 : D code 145 (.iload 10) 2 147 := ⟨at_145, rfl⟩
theorem d0_147 : D code 147 (.ifCond .eq 14) 3 150 := ⟨at_147, rfl⟩
theorem d0_150 : D code 150 (.aload 11) 2 152 := ⟨at_150, rfl⟩
theorem d0_152 : D code 152 (.aload 5) 2 154 := ⟨at_152, rfl⟩
theorem d0_154 : D code 154 (.iload 7) 2 156 := ⟨at_154, rfl⟩
theorem d0_156 : D code 156 (.aaload) 1 157 := ⟨at_156, rfl⟩
theorem d0_157 : D code 157 (.iload_n 3) 1 158 := ⟨at_157, rfl⟩
theorem d0_158 : D code 158 (.invokevirtual 28) 3 161 := ⟨at_158, rfl⟩
theorem d0_161 : D code 161 (.aload 11) 2 163 := ⟨at_161, rfl⟩
theorem d0_163 : D code 163 (.invokevirtual 32) 3 166 := ⟨at_163, rfl⟩
theorem d0_166 : D code 166 (.aload 11) 2 168 := ⟨at_166, rfl⟩
theorem d0_168 : D code 168 (.aload 5) 2 170 := ⟨at_168, rfl⟩
theorem d0_170 : D code 170 (.iload 6) 2 172 := ⟨at_170, rfl⟩
theorem d0_172 : D code 172 (.aaload) 1 173 := ⟨at_172, rfl⟩
theorem d0_173 : D code 173 (.invokevirtual 35) 3 176 := ⟨at_173, rfl⟩
theorem d0_176 : D code 176 (.ifCond .ne 33) 3 179 := ⟨at_176, rfl⟩
theorem d0_179 : D code 179 (.aload 11) 2 181 := ⟨at_179, rfl⟩
theorem d0_181 : D code 181 (.aload 5) 2 183 := ⟨at_181, rfl⟩
theorem d0_183 : D code 183 (.iload 7) 2 185 := ⟨at_183, rfl⟩
theorem d0_185 : D code 185 (.aaload) 1 186 := ⟨at_185, rfl⟩
theorem d0_186 : D code 186 (.invokevirtual 35) 3 189 := ⟨at_186, rfl⟩
theorem d0_189 : D code 189 (.ifCond .ne 20) 3 192 := ⟨at_189, rfl⟩
theorem d0_192 : D code 192 (.aload 11) 2 194 := ⟨at_192, rfl⟩
theorem d0_194 : D code 194 (.aload 5) 2 196 := ⟨at_194, rfl⟩
theorem d0_196 : D code 196 (.iload 8) 2 198 := ⟨at_196, rfl⟩
theorem d0_198 : D code 198 (.aaload) 1 199 := ⟨at_198, rfl⟩
theorem d0_199 : D code 199 (.invokevirtual 35) 3 202 := ⟨at_199, rfl⟩
theorem d0_202 : D code 202 (.ifCond .ne 7) 3 205 := ⟨at_202, rfl⟩
theorem d0_205 : D code 205 (.iconst 1) 1 206 := ⟨at_205, rfl⟩
theorem d0_206 : D code 206 (.goto 4) 3 209 := ⟨at_206, rfl⟩
theorem d0_210 : D code 210 (.istore 12) 2 212 := ⟨at_210, rfl⟩
theorem d0_212 : D code 212 (.iload 12) 2 214 := ⟨at_212, rfl⟩
theorem d0_214 : D code 214 (.ifCond .ne 5) 3 217 := ⟨at_214, rfl⟩
theorem d0_219 : D code 219 (.aload 11) 2 221 := ⟨at_219, rfl⟩
theorem d0_221 : D code 221 (.aload 5) 2 223 := ⟨at_221, rfl⟩
theorem d0_223 : D code 223 (.iload 8) 2 225 := ⟨at_223, rfl⟩
theorem d0_225 : D code 225 (.aaload) 1 226 := ⟨at_225, rfl⟩
theorem d0_226 : D code 226 (.iload 4) 2 228 := ⟨at_226, rfl⟩
theorem d0_228 : D code 228 (.invokevirtual 28) 3 231 := ⟨at_228, rfl⟩
theorem d0_231 : D code 231 (.aload 11) 2 233 := ⟨at_231, rfl⟩
theorem d0_233 : D code 233 (.aload 5) 2 235 := ⟨at_233, rfl⟩
theorem d0_235 : D code 235 (.iload 8) 2 237 := ⟨at_235, rfl⟩
theorem d0_237 : D code 237 (.aaload) 1 238 := ⟨at_237, rfl⟩
theorem d0_238 : D code 238 (.invokevirtual 35) 3 241 := ⟨at_238, rfl⟩
theorem d0_241 : D code 241 (.iconst 1) 1 242 := ⟨at_241, rfl⟩
theorem d0_242 : D code 242 (.if_icmp .ne 23) 3 245 := ⟨at_242, rfl⟩
theorem d0_245 : D code 245 (.aload 11) 2 247 := ⟨at_245, rfl⟩
theorem d0_247 : D code 247 (.aload 5) 2 249 := ⟨at_247, rfl⟩
theorem d0_249 : D code 249 (.iload 8) 2 251 := ⟨at_249, rfl⟩
theorem d0_251 : D code 251 (.aaload) 1 252 := ⟨at_251, rfl⟩
theorem d0_252 : D code 252 (.iconst 0) 1 253 := ⟨at_252, rfl⟩
theorem d0_253 : D code 253 (.invokevirtual 39) 3 256 := ⟨at_253, rfl⟩
theorem d0_256 : D code 256 (.iload 4) 2 258 := ⟨at_256, rfl⟩
theorem d0_258 : D code 258 (.if_icmp .ne 7) 3 261 := ⟨at_258, rfl⟩
theorem d0_261 : D code 261 (.iconst 1) 1 262 := ⟨at_261, rfl⟩
theorem d0_262 : D code 262 (.goto 4) 3 265 := ⟨at_262, rfl⟩
theorem d0_266 : D code 266 (.ireturn) 1 267 := ⟨at_266, rfl⟩
theorem d1_0 : D prog_14_method_1_code 0 (.aload_n 0) 1 1 := ⟨by decide +kernel, rfl⟩
theorem d1_1 : D prog_14_method_1_code 1 (.invokespecial 1) 3 4 := ⟨by decide +kernel, rfl⟩
theorem d1_4 : D prog_14_method_1_code 4 (.aload_n 0) 1 5 := ⟨by decide +kernel, rfl⟩
theorem d1_5 : D prog_14_method_1_code 5 (.getstatic 7) 3 8 := ⟨by decide +kernel, rfl⟩
theorem d1_8 : D prog_14_method_1_code 8 (.arraylength) 1 9 := ⟨by decide +kernel, rfl⟩
theorem d1_9 : D prog_14_method_1_code 9 (.anewarray 13) 3 12 := ⟨by decide +kernel, rfl⟩
theorem d1_12 : D prog_14_method_1_code 12 (.putfield 15) 3 15 := ⟨by decide +kernel, rfl⟩
theorem d1_15 : D prog_14_method_1_code 15 (.aload_n 0) 1 16 := ⟨by decide +kernel, rfl⟩
theorem d1_16 : D prog_14_method_1_code 16 (.getstatic 7) 3 19 := ⟨by decide +kernel, rfl⟩
theorem d1_19 : D prog_14_method_1_code 19 (.arraylength) 1 20 := ⟨by decide +kernel, rfl⟩
theorem d1_20 : D prog_14_method_1_code 20 (.newarray .int) 2 22 := ⟨by decide +kernel, rfl⟩
theorem d1_22 : D prog_14_method_1_code 22 (.putfield 19) 3 25 := ⟨by decide +kernel, rfl⟩
theorem d1_25 : D prog_14_method_1_code 25 (.return_) 1 26 := ⟨by decide +kernel, rfl⟩
theorem d3_0 : D prog_14_method_6_code 0 (.iconst 0) 1 1 := ⟨by decide +kernel, rfl⟩
theorem d3_1 : D prog_14_method_6_code 1 (.istore_n 1) 1 2 := ⟨by decide +kernel, rfl⟩
theorem d3_2 : D prog_14_method_6_code 2 (.iload_n 1) 1 3 := ⟨by decide +kernel, rfl⟩
theorem d3_3 : D prog_14_method_6_code 3 (.aload_n 0) 1 4 := ⟨by decide +kernel, rfl⟩
theorem d3_4 : D prog_14_method_6_code 4 (.getfield 19) 3 7 := ⟨by decide +kernel, rfl⟩
theorem d3_7 : D prog_14_method_6_code 7 (.arraylength) 1 8 := ⟨by decide +kernel, rfl⟩
theorem d3_8 : D prog_14_method_6_code 8 (.if_icmp .ge 45) 3 11 := ⟨by decide +kernel, rfl⟩
theorem d3_11 : D prog_14_method_6_code 11 (.aload_n 0) 1 12 := ⟨by decide +kernel, rfl⟩
theorem d3_12 : D prog_14_method_6_code 12 (.getfield 19) 3 15 := ⟨by decide +kernel, rfl⟩
theorem d3_15 : D prog_14_method_6_code 15 (.iload_n 1) 1 16 := ⟨by decide +kernel, rfl⟩
theorem d3_16 : D prog_14_method_6_code 16 (.iconst 0) 1 17 := ⟨by decide +kernel, rfl⟩
theorem d3_17 : D prog_14_method_6_code 17 (.iastore) 1 18 := ⟨by decide +kernel, rfl⟩
theorem d3_18 : D prog_14_method_6_code 18 (.aload_n 0) 1 19 := ⟨by decide +kernel, rfl⟩
theorem d3_19 : D prog_14_method_6_code 19 (.getfield 15) 3 22 := ⟨by decide +kernel, rfl⟩
theorem d3_22 : D prog_14_method_6_code 22 (.iload_n 1) 1 23 := ⟨by decide +kernel, rfl⟩
theorem d3_23 : D prog_14_method_6_code 23 (.aaload) 1 24 := ⟨by decide +kernel, rfl⟩
theorem d3_24 : D prog_14_method_6_code 24 (.ifnull 23) 3 27 := ⟨by decide +kernel, rfl⟩
theorem d3_27 : D prog_14_method_6_code 27 (.aload_n 0) 1 28 := ⟨by decide +kernel, rfl⟩
theorem d3_28 : D prog_14_method_6_code 28 (.getfield 15) 3 31 := ⟨by decide +kernel, rfl⟩
theorem d3_31 : D prog_14_method_6_code 31 (.iload_n 1) 1 32 := ⟨by decide +kernel, rfl⟩
theorem d3_32 : D prog_14_method_6_code 32 (.aaload) 1 33 := ⟨by decide +kernel, rfl⟩
theorem d3_33 : D prog_14_method_6_code 33 (.arraylength) 1 34 := ⟨by decide +kernel, rfl⟩
theorem d3_34 : D prog_14_method_6_code 34 (.sipush 256) 3 37 := ⟨by decide +kernel, rfl⟩
theorem d3_37 : D prog_14_method_6_code 37 (.if_icmp .le 10) 3 40 := ⟨by decide +kernel, rfl⟩
theorem d3_47 : D prog_14_method_6_code 47 (.iinc 1 1) 3 50 := ⟨by decide +kernel, rfl⟩
theorem d3_50 : D prog_14_method_6_code 50 (.goto (-48)) 3 53 := ⟨by decide +kernel, rfl⟩
theorem d3_53 : D prog_14_method_6_code 53 (.return_) 1 54 := ⟨by decide +kernel, rfl⟩
theorem d4_0 : D prog_14_method_4_code 0 (.aload_n 0) 1 1 := ⟨by decide +kernel, rfl⟩
theorem d4_1 : D prog_14_method_4_code 1 (.getfield 19) 3 4 := ⟨by decide +kernel, rfl⟩
theorem d4_4 : D prog_14_method_4_code 4 (.aload_n 1) 1 5 := ⟨by decide +kernel, rfl⟩
theorem d4_5 : D prog_14_method_4_code 5 (.invokevirtual 22) 3 8 := ⟨by decide +kernel, rfl⟩
theorem d4_8 : D prog_14_method_4_code 8 (.iaload) 1 9 := ⟨by decide +kernel, rfl⟩
theorem d4_9 : D prog_14_method_4_code 9 (.ireturn) 1 10 := ⟨by decide +kernel, rfl⟩
theorem d5_0 : D jdk_37_method_2_code 0 (.aload_n 0) 1 1 := ⟨by decide +kernel, rfl⟩
theorem d5_1 : D jdk_37_method_2_code 1 (.getfield 7) 3 4 := ⟨by decide +kernel, rfl⟩
theorem d5_4 : D jdk_37_method_2_code 4 (.ireturn) 1 5 := ⟨by decide +kernel, rfl⟩
theorem d6_0 : D prog_14_method_2_code 0 (.aload_n 1) 1 1 := ⟨by decide +kernel, rfl⟩
theorem d6_1 : D prog_14_method_2_code 1 (.invokevirtual 22) 3 4 := ⟨by decide +kernel, rfl⟩
theorem d6_4 : D prog_14_method_2_code 4 (.istore_n 3) 1 5 := ⟨by decide +kernel, rfl⟩
theorem d6_5 : D prog_14_method_2_code 5 (.aload_n 0) 1 6 := ⟨by decide +kernel, rfl⟩
theorem d6_6 : D prog_14_method_2_code 6 (.getfield 19) 3 9 := ⟨by decide +kernel, rfl⟩
theorem d6_9 : D prog_14_method_2_code 9 (.iload_n 3) 1 10 := ⟨by decide +kernel, rfl⟩
theorem d6_10 : D prog_14_method_2_code 10 (.iaload) 1 11 := ⟨by decide +kernel, rfl⟩
theorem d6_11 : D prog_14_method_2_code 11 (.istore 4) 2 13 := ⟨by decide +kernel, rfl⟩
theorem d6_13 : D prog_14_method_2_code 13 (.iload 4) 2 15 := ⟨by decide +kernel, rfl⟩
theorem d6_15 : D prog_14_method_2_code 15 (.ifCond .le 47) 3 18 := ⟨by decide +kernel, rfl⟩
theorem d6_18 : D prog_14_method_2_code 18 (.aload_n 0) 1 19 := ⟨by decide +kernel, rfl⟩
theorem d6_19 : D prog_14_method_2_code 19 (.getfield 15) 3 22 := ⟨by decide +kernel, rfl⟩
theorem d6_22 : D prog_14_method_2_code 22 (.iload_n 3) 1 23 := ⟨by decide +kernel, rfl⟩
theorem d6_23 : D prog_14_method_2_code 23 (.aaload) 1 24 := ⟨by decide +kernel, rfl⟩
theorem d6_24 : D prog_14_method_2_code 24 (.iload 4) 2 26 := ⟨by decide +kernel, rfl⟩
theorem d6_26 : D prog_14_method_2_code 26 (.iconst 1) 1 27 := ⟨by decide +kernel, rfl⟩
theorem d6_27 : D prog_14_method_2_code 27 (.isub) 1 28 := ⟨by decide +kernel, rfl⟩
theorem d6_28 : D prog_14_method_2_code 28 (.iaload) 1 29 := ⟨by decide +kernel, rfl⟩
theorem d6_29 : D prog_14_method_2_code 29 (.iload_n 2) 1 30 := ⟨by decide +kernel, rfl⟩
theorem d6_30 : D prog_14_method_2_code 30 (.if_icmp .lt 32) 3 33 := ⟨by decide +kernel, rfl⟩
theorem d6_62 : D prog_14_method_2_code 62 (.aload_n 0) 1 63 := ⟨by decide +kernel, rfl⟩
theorem d6_63 : D prog_14_method_2_code 63 (.getfield 15) 3 66 := ⟨by decide +kernel, rfl⟩
theorem d6_66 : D prog_14_method_2_code 66 (.iload_n 3) 1 67 := ⟨by decide +kernel, rfl⟩
theorem d6_67 : D prog_14_method_2_code 67 (.aaload) 1 68 := ⟨by decide +kernel, rfl⟩
theorem d6_68 : D prog_14_method_2_code 68 (.ifnonnull 15) 3 71 := ⟨by decide +kernel, rfl⟩
theorem d6_71 : D prog_14_method_2_code 71 (.aload_n 0) 1 72 := ⟨by decide +kernel, rfl⟩
theorem d6_72 : D prog_14_method_2_code 72 (.getfield 15) 3 75 := ⟨by decide +kernel, rfl⟩
theorem d6_75 : D prog_14_method_2_code 75 (.iload_n 3) 1 76 := ⟨by decide +kernel, rfl⟩
theorem d6_76 : D prog_14_method_2_code 76 (.iconst 4) 1 77 := ⟨by decide +kernel, rfl⟩
theorem d6_77 : D prog_14_method_2_code 77 (.newarray .int) 2 79 := ⟨by decide +kernel, rfl⟩
theorem d6_79 : D prog_14_method_2_code 79 (.aastore) 1 80 := ⟨by decide +kernel, rfl⟩
theorem d6_80 : D prog_14_method_2_code 80 (.goto 34) 3 83 := ⟨by decide +kernel, rfl⟩
theorem d6_83 : D prog_14_method_2_code 83 (.iload 4) 2 85 := ⟨by decide +kernel, rfl⟩
theorem d6_85 : D prog_14_method_2_code 85 (.aload_n 0) 1 86 := ⟨by decide +kernel, rfl⟩
theorem d6_86 : D prog_14_method_2_code 86 (.getfield 15) 3 89 := ⟨by decide +kernel, rfl⟩
theorem d6_89 : D prog_14_method_2_code 89 (.iload_n 3) 1 90 := ⟨by decide +kernel, rfl⟩
theorem d6_90 : D prog_14_method_2_code 90 (.aaload) 1 91 := ⟨by decide +kernel, rfl⟩
theorem d6_91 : D prog_14_method_2_code 91 (.arraylength) 1 92 := ⟨by decide +kernel, rfl⟩
theorem d6_92 : D prog_14_method_2_code 92 (.if_icmp .ne 22) 3 95 := ⟨by decide +kernel, rfl⟩
theorem d6_114 : D prog_14_method_2_code 114 (.aload_n 0) 1 115 := ⟨by decide +kernel, rfl⟩
theorem d6_115 : D prog_14_method_2_code 115 (.getfield 15) 3 118 := ⟨by decide +kernel, rfl⟩
theorem d6_118 : D prog_14_method_2_code 118 (.iload_n 3) 1 119 := ⟨by decide +kernel, rfl⟩
theorem d6_119 : D prog_14_method_2_code 119 (.aaload) 1 120 := ⟨by decide +kernel, rfl⟩
theorem d6_120 : D prog_14_method_2_code 120 (.iload 4) 2 122 := ⟨by decide +kernel, rfl⟩
theorem d6_122 : D prog_14_method_2_code 122 (.iload_n 2) 1 123 := ⟨by decide +kernel, rfl⟩
theorem d6_123 : D prog_14_method_2_code 123 (.iastore) 1 124 := ⟨by decide +kernel, rfl⟩
theorem d6_124 : D prog_14_method_2_code 124 (.aload_n 0) 1 125 := ⟨by decide +kernel, rfl⟩
theorem d6_125 : D prog_14_method_2_code 125 (.getfield 19) 3 128 := ⟨by decide +kernel, rfl⟩
theorem d6_128 : D prog_14_method_2_code 128 (.iload_n 3) 1 129 := ⟨by decide +kernel, rfl⟩
theorem d6_129 : D prog_14_method_2_code 129 (.iload 4) 2 131 := ⟨by decide +kernel, rfl⟩
theorem d6_131 : D prog_14_method_2_code 131 (.iconst 1) 1 132 := ⟨by decide +kernel, rfl⟩
theorem d6_132 : D prog_14_method_2_code 132 (.iadd) 1 133 := ⟨by decide +kernel, rfl⟩
theorem d6_133 : D prog_14_method_2_code 133 (.iastore) 1 134 := ⟨by decide +kernel, rfl⟩
theorem d6_134 : D prog_14_method_2_code 134 (.return_) 1 135 := ⟨by decide +kernel, rfl⟩
theorem d7_0 : D prog_14_method_5_code 0 (.aload_n 0) 1 1 := ⟨by decide +kernel, rfl⟩
theorem d7_1 : D prog_14_method_5_code 1 (.getfield 15) 3 4 := ⟨by decide +kernel, rfl⟩
theorem d7_4 : D prog_14_method_5_code 4 (.aload_n 1) 1 5 := ⟨by decide +kernel, rfl⟩
theorem d7_5 : D prog_14_method_5_code 5 (.invokevirtual 22) 3 8 := ⟨by decide +kernel, rfl⟩
theorem d7_8 : D prog_14_method_5_code 8 (.aaload) 1 9 := ⟨by decide +kernel, rfl⟩
theorem d7_9 : D prog_14_method_5_code 9 (.iload_n 2) 1 10 := ⟨by decide +kernel, rfl⟩
theorem d7_10 : D prog_14_method_5_code 10 (.iaload) 1 11 := ⟨by decide +kernel, rfl⟩
theorem d7_11 : D prog_14_method_5_code 11 (.ireturn) 1 12 := ⟨by decide +kernel, rfl⟩
theorem pd_0 : parseMethodDescriptor "()I" = some ⟨[], some .int⟩ := by decide +kernel
theorem pd_1 : parseMethodDescriptor "()V" = some ⟨[], none⟩ := by decide +kernel
theorem pd_2 : parseMethodDescriptor "(Lcom/example/linkwell/linkwell/index/HitKind;)I" = some ⟨[(.object "com/example/linkwell/linkwell/index/HitKind")], some .int⟩ := by decide +kernel
theorem pd_3 : parseMethodDescriptor "(Lcom/example/linkwell/linkwell/index/HitKind;I)V" = some ⟨[(.object "com/example/linkwell/linkwell/index/HitKind"), .int], none⟩ := by decide +kernel
theorem pd_4 : parseMethodDescriptor "(Lcom/example/linkwell/linkwell/index/HitKind;I)I" = some ⟨[(.object "com/example/linkwell/linkwell/index/HitKind"), .int], some .int⟩ := by decide +kernel
def PosV (Z : State) (h : Heap) (n1 : Nat) (a b c : Addr) (v : Value) : Prop := v = .null ∨ ∃ d k l, v = .ref d ∧ AL Z h d k .int l ∧ l.length = 4 ∧ n1 ≤ d ∧ d ≠ a ∧ d ≠ b ∧ d ≠ c
def HS (Z : State) (h : Heap) (n1 : Nat) (a b c : Addr) (kb kc : ClassId) (cs : List Int32) (ps : List Value) : Prop :=
  Exa Z h a "com/example/linkwell/linkwell/index/Hits" ∧ Fld Z h a "com/example/linkwell/linkwell/index/Hits" "positions" "[[I" (.ref b) ∧ Fld Z h a "com/example/linkwell/linkwell/index/Hits" "counts" "[I" (.ref c) ∧ AL Z h b kb (.array .int) ps ∧ AL Z h c kc .int (cs.map .int) ∧ OvrA Z kb .int "[I" ∧ ps.length = 5 ∧ cs.length = 5 ∧ (a ≠ b ∧ a ≠ c ∧ b ≠ c) ∧ (n1 ≤ a ∧ n1 ≤ b ∧ n1 ≤ c) ∧ ∀ v ∈ ps, PosV Z h n1 a b c v
theorem PosV.ext {Z : State} {h h' : Heap} {n1 : Nat} {a b c : Addr} {v : Value} (q : PosV Z h n1 a b c v) (E : Ext h h') : PosV Z h' n1 a b c v := by
  rcases q with q | ⟨d, k, l, e, A, r⟩
  · exact Or.inl q
  · exact Or.inr ⟨d, k, l, e, A.ext E, r⟩
theorem PosV.wr {Z : State} {h h' : Heap} {n1 : Nat} {a b c x : Addr} {v w : Value} {i : Nat} (q : PosV Z h n1 a b c v) (W : Wr h h' x i w) : PosV Z h' n1 a b c v := by
  rcases q with q | ⟨d, k, l, e, A, r1, r⟩
  · exact Or.inl q
  · by_cases z : d = x
    · subst z; exact Or.inr ⟨d, k, _, e, A.set W, by rw [List.length_set]; exact r1, r⟩
    · exact Or.inr ⟨d, k, l, e, A.other W z, r1, r⟩
theorem map_get {cs : List Int32} {i : Nat} {n : Int32} (q : cs[i]? = some n) : (cs.map Value.int)[i]? = some (.int n) := by rw [List.getElem?_map, q]; rfl
theorem map_set' (cs : List Int32) (i : Nat) (n : Int32) : (cs.map Value.int).set i (.int n) = (cs.set i n).map Value.int := by rw [List.map_set]
theorem mem_set {ps : List Value} {i : Nat} {v w : Value} (q : w ∈ ps.set i v) : w ∈ ps ∨ w = v := (List.mem_or_eq_of_mem_set q)
set_option maxRecDepth 65536 in
set_option maxHeartbeats 40000000 in
theorem rm_ordinal (l : Launch) (Z : State) (a0 : Array Value) (hw : ∀ d ∈ tables_1, d.before a0 Z = true) (h0 : Heap) (n0 : Nat) (r : Addr) (o : Int32) (F : Fld Z h0 r "java/lang/Enum" "ordinal" "I" (.int o)) :
    Met l Z (⟨"java/lang/Enum", "ordinal", "()I"⟩ : MethodName) jdk_37_method_2_code 1 (some .int) ({ frames := 0, cells := 0, slots := 0, locals := 0 } : Room) n0 #[(.ref r)] h0 (fun v h => v = some (.int o) ∧ h0 = h) := by
  refine Met.intro (by decide +kernel) ?_
  intro p e s m below meth cc T0 P0
  refine Go.cast (g' := mkF m 0 #[.val (.ref r)] []) (by first | (simp [entryFrame, mkF, argsToLocals, Value.category, maxLocals]; done) | rfl) ?_
  refine g_aloadN P0 d5_0 rfl rfl ?_
  refine g_getF (host := "") P0 d5_1 (Or.inl (hw _ (List.mem_of_getElem? (i := 49) rfl))) Via.refl F fun T1 P1 => ?_
  exact g_retI P1 d5_4 (by decide) (by decide) ⟨rfl, rfl⟩
set_option maxRecDepth 65536 in
set_option maxHeartbeats 40000000 in
theorem rm_init (l : Launch) (Z : State) (a0 : Array Value) (hw : ∀ d ∈ tables_1, d.before a0 Z = true) (h0 : Heap) (n0 : Nat) (a kd : Addr) (kk : ClassId) (ty : FieldType) (vs : List Value) (S_KINDS : Sta Z h0 "com/example/linkwell/linkwell/index/Hits" "KINDS" "[Lcom/example/linkwell/linkwell/index/HitKind;" (.ref kd)) (AK : AL Z h0 kd kk ty vs) (zk : vs.length.toInt32 = 5) (ka : kd ≠ a) (ge : n0 ≤ a) (A : Exa Z h0 a "com/example/linkwell/linkwell/index/Hits") (F_p : Fld Z h0 a "com/example/linkwell/linkwell/index/Hits" "positions" "[[I" .null) (F_c : Fld Z h0 a "com/example/linkwell/linkwell/index/Hits" "counts" "[I" .null) :
    Met l Z (⟨"com/example/linkwell/linkwell/index/Hits", "<init>", "()V"⟩ : MethodName) prog_14_method_1_code 1 none ({ frames := 1, cells := 2, slots := 10, locals := 20 } : Room) n0 #[(.ref a)] h0 (fun v h => v = none ∧ ∃ b c kb kc, HS Z h a a b c kb kc [0, 0, 0, 0, 0] (List.replicate 5 .null) ∧ Below a h0 h) := by
  refine Met.intro (by decide +kernel) ?_
  intro p e s m below meth cc T0 P0
  refine Go.cast (g' := mkF m 0 #[.val (.ref a)] []) (by first | (simp [entryFrame, mkF, argsToLocals, Value.category, maxLocals]; done) | rfl) ?_
  refine g_aloadN P0 d1_0 rfl rfl ?_
  refine g_init (W := 0) P0 d1_1 (hw _ (List.mem_of_getElem? (i := 20) rfl)) (hw _ (List.mem_of_getElem? (i := 21) rfl)) (hw _ (List.mem_of_getElem? (i := 22) rfl)) rfl (by decide) rfl (by decide) fun T2 P2 => ?_
  refine g_aloadN P2 d1_4 rfl rfl ?_
  refine g_getS (host := "") P2 d1_5 (Or.inl (hw _ (List.mem_of_getElem? (i := 23) rfl))) Via.refl S_KINDS fun T3 P3 => ?_
  refine g_arraylength (z := (5 : Int32)) P3 d1_8 AK zk ?_
  refine g_anewarrayA P3 d1_9 (ty := .int) (by decide) (hw _ (List.mem_of_getElem? (i := 25) rfl)) (hw _ (List.mem_of_getElem? (i := 26) rfl)) (by decide) 5 (by decide) (by decide) (by decide) (by decide) "[[I" (by decide) fun T4 h4 b kb P4 eb E4 AB Xb OB => ?_
  have B := (Below.refl (n1 := a)).ext E4
  have lA := ltN A.lt
  have lK := ltN AK.lt
  have A := A.ext E4
  have F_p := F_p.ext E4
  have F_c := F_c.ext E4
  have S_KINDS := S_KINDS.ext E4
  have AK := AK.ext E4
  have ab : a ≠ b := nN (by omega)
  have kb' : kd ≠ b := nN (by omega)
  refine g_putF (host := "") P4 d1_12 (Or.inl (hw _ (List.mem_of_getElem? (i := 27) rfl))) Via.refl F_p A (Or.inr ⟨(hw _ (List.mem_of_getElem? (i := 28) rfl)), rfl, rfl⟩) (hw _ (List.mem_of_getElem? (i := 15) rfl)) (ty := (.array (.array .int))) (by decide) rfl rfl ge fun T5 h5 P5 W5 => ?_
  have F_p := F_p.same W5
  have F_c := F_c.other W5 (Or.inr (slot_ne (Or.inr (hw _ (List.mem_of_getElem? (i := 31) rfl)) : Laid Z a0 "com/example/linkwell/linkwell/index/Hits" "com/example/linkwell/linkwell/index/Hits" "counts" "[I") (Or.inr (hw _ (List.mem_of_getElem? (i := 28) rfl)) : Laid Z a0 "com/example/linkwell/linkwell/index/Hits" "com/example/linkwell/linkwell/index/Hits" "positions" "[[I") (by decide) (t := (.array .int)) (by decide) (t' := (.array (.array .int))) (by decide)))
  have B := B.wr W5 (Nat.le_refl a)
  have A := A.wr W5
  have S_KINDS := S_KINDS.wr W5
  have AB := AB.other W5 (Ne.symm ab)
  have AK := AK.other W5 ka
  have lB := ltN AB.lt
  refine g_aloadN P5 d1_15 rfl rfl ?_
  refine g_getS (host := "") P5 d1_16 (Or.inl (hw _ (List.mem_of_getElem? (i := 23) rfl))) Via.refl S_KINDS fun T6 P6 => ?_
  refine g_arraylength (z := (5 : Int32)) P6 d1_19 AK zk ?_
  refine g_newarray P6 d1_20 (hw _ (List.mem_of_getElem? (i := 29) rfl)) (by decide) 5 (by decide) (by decide) (by decide) (by decide) "[I" (by decide) fun T7 h7 c k7 P7 e7 E7 AC X_c => ?_
  have AC : AL Z h7 c k7 .int [(.int 0), (.int 0), (.int 0), (.int 0), (.int 0)] := AC
  have ac : a ≠ c := nN (by have := ltN A.lt; omega)
  have bc : b ≠ c := nN (by omega)
  have B := B.ext E7
  have A := A.ext E7
  have F_p := F_p.ext E7
  have F_c := F_c.ext E7
  have AB := AB.ext E7
  have lC := ltN AC.lt
  refine g_putF (host := "") P7 d1_22 (Or.inl (hw _ (List.mem_of_getElem? (i := 30) rfl))) Via.refl F_c A (Or.inr ⟨(hw _ (List.mem_of_getElem? (i := 31) rfl)), rfl, rfl⟩) (hw _ (List.mem_of_getElem? (i := 15) rfl)) (ty := (.array .int)) (by decide) rfl rfl ge fun T8 h8 P8 W8 => ?_
  have F_c := F_c.same W8
  have F_p := F_p.other W8 (Or.inr (slot_ne (Or.inr (hw _ (List.mem_of_getElem? (i := 28) rfl)) : Laid Z a0 "com/example/linkwell/linkwell/index/Hits" "com/example/linkwell/linkwell/index/Hits" "positions" "[[I") (Or.inr (hw _ (List.mem_of_getElem? (i := 31) rfl)) : Laid Z a0 "com/example/linkwell/linkwell/index/Hits" "com/example/linkwell/linkwell/index/Hits" "counts" "[I") (by decide) (t := (.array (.array .int))) (by decide) (t' := (.array .int)) (by decide)))
  have B := B.wr W8 (Nat.le_refl a)
  have A := A.wr W8
  have AB := AB.other W8 (Ne.symm ab)
  have AC := AC.other W8 (Ne.symm ac)
  exact g_ret P8 d1_25 (by decide) (by decide) ⟨rfl, b, c, kb, _, ⟨A, F_p, F_c, AB, AC, OB, rfl, rfl, ⟨ab, ac, bc⟩, ⟨Nat.le_refl _, by omega, by omega⟩, fun v hv => Or.inl (List.eq_of_mem_replicate hv)⟩, B⟩
set_option maxRecDepth 65536 in
set_option maxHeartbeats 40000000 in
theorem rm_count (l : Launch) (Z : State) (a0 : Array Value) (hw : ∀ d ∈ tables_1, d.before a0 Z = true) (h0 : Heap) (n0 : Nat) (n1 : Nat) (a b c : Addr) (kb kc : ClassId) (cs : List Int32) (ps : List Value) (r : Addr) (oi : Nat) (ov : Int32) (n : Int32) (H : HS Z h0 n1 a b c kb kc cs ps) (E_r : Exa Z h0 r "com/example/linkwell/linkwell/index/HitKind") (F_r : Fld Z h0 r "java/lang/Enum" "ordinal" "I" (.int ov)) (I_r : Ix ov oi) (hn : cs[oi]? = some n) :
    Met l Z (⟨"com/example/linkwell/linkwell/index/Hits", "count", "(Lcom/example/linkwell/linkwell/index/HitKind;)I"⟩ : MethodName) prog_14_method_4_code 2 (some .int) ({ frames := 1, cells := 0, slots := 0, locals := 20 } : Room) n0 #[(.ref a), (.ref r)] h0 (fun v h => v = some (.int n) ∧ h0 = h) := by
  refine Met.intro (by decide +kernel) ?_
  intro p e s m below meth cc T0 P0
  refine Go.cast (g' := mkF m 0 #[.val (.ref a), .val (.ref r)] []) (by first | (simp [entryFrame, mkF, argsToLocals, Value.category, maxLocals]; done) | rfl) ?_
  obtain ⟨A, F_p, F_c, AB, AC, OB, lp, lc, ⟨ab, ac, bc⟩, ⟨ga, gb, gc⟩, PV⟩ := H
  refine g_aloadN P0 d4_0 rfl rfl ?_
  refine g_getF (host := "") P0 d4_1 (Or.inl (hw _ (List.mem_of_getElem? (i := 30) rfl))) Via.refl F_c fun T9 P9 => ?_
  refine g_aloadN P9 d4_4 rfl rfl ?_
  refine g_virtualUp P9 r [] (rest := [(.ref c)]) (W := 1) (owner := "java/lang/Enum") d4_5 (hw _ (List.mem_of_getElem? (i := 42) rfl)) (hw _ (List.mem_of_getElem? (i := 43) rfl)) (hw _ (List.mem_of_getElem? (i := 44) rfl)) (by decide) (hw _ (List.mem_of_getElem? (i := 46) rfl)) (hw _ (List.mem_of_getElem? (i := 45) rfl)) (hw _ (List.mem_of_getElem? (i := 47) rfl)) (hw _ (List.mem_of_getElem? (i := 48) rfl)) E_r (rm_ordinal l Z a0 hw h0 n0 r ov F_r) pd_0 rfl rfl rfl rfl (by decide) (by decide) (by decide) (by decide) fun v10 T10 h10 P10 q10 => ?_
  obtain ⟨rfl, rfl⟩ := q10
  refine g_iaload (i := oi) (v := (.int n)) P10 d4_8 AC I_r (map_get hn) ?_
  exact g_retI P10 d4_9 (by decide) (by decide) ⟨rfl, rfl⟩
set_option maxRecDepth 65536 in
set_option maxHeartbeats 40000000 in
theorem rm_position (l : Launch) (Z : State) (a0 : Array Value) (hw : ∀ d ∈ tables_1, d.before a0 Z = true) (h0 : Heap) (n0 : Nat) (n1 : Nat) (a b c : Addr) (kb kc : ClassId) (cs : List Int32) (ps : List Value) (r : Addr) (oi : Nat) (ov : Int32) (d : Addr) (k : ClassId) (lst : List Value) (x : Int32) (H : HS Z h0 n1 a b c kb kc cs ps) (E_r : Exa Z h0 r "com/example/linkwell/linkwell/index/HitKind") (F_r : Fld Z h0 r "java/lang/Enum" "ordinal" "I" (.int ov)) (I_r : Ix ov oi) (hp : ps[oi]? = some (.ref d)) (AD : AL Z h0 d k .int lst) (hx : lst[0]? = some (.int x)) :
    Met l Z (⟨"com/example/linkwell/linkwell/index/Hits", "position", "(Lcom/example/linkwell/linkwell/index/HitKind;I)I"⟩ : MethodName) prog_14_method_5_code 3 (some .int) ({ frames := 1, cells := 0, slots := 0, locals := 20 } : Room) n0 #[(.ref a), (.ref r), (.int (0 : Int32))] h0 (fun v h => v = some (.int x) ∧ h0 = h) := by
  refine Met.intro (by decide +kernel) ?_
  intro p e s m below meth cc T0 P0
  refine Go.cast (g' := mkF m 0 #[.val (.ref a), .val (.ref r), .val (.int (0 : Int32))] []) (by first | (simp [entryFrame, mkF, argsToLocals, Value.category, maxLocals]; done) | rfl) ?_
  obtain ⟨A, F_p, F_c, AB, AC, OB, lp, lc, ⟨ab, ac, bc⟩, ⟨ga, gb, gc⟩, PV⟩ := H
  refine g_aloadN P0 d7_0 rfl rfl ?_
  refine g_getF (host := "") P0 d7_1 (Or.inl (hw _ (List.mem_of_getElem? (i := 27) rfl))) Via.refl F_p fun T11 P11 => ?_
  refine g_aloadN P11 d7_4 rfl rfl ?_
  refine g_virtualUp P11 r [] (rest := [(.ref b)]) (W := 1) (owner := "java/lang/Enum") d7_5 (hw _ (List.mem_of_getElem? (i := 42) rfl)) (hw _ (List.mem_of_getElem? (i := 43) rfl)) (hw _ (List.mem_of_getElem? (i := 44) rfl)) (by decide) (hw _ (List.mem_of_getElem? (i := 46) rfl)) (hw _ (List.mem_of_getElem? (i := 45) rfl)) (hw _ (List.mem_of_getElem? (i := 47) rfl)) (hw _ (List.mem_of_getElem? (i := 48) rfl)) E_r (rm_ordinal l Z a0 hw h0 n0 r ov F_r) pd_0 rfl rfl rfl rfl (by decide) (by decide) (by decide) (by decide) fun v12 T12 h12 P12 q12 => ?_
  obtain ⟨rfl, rfl⟩ := q12
  refine g_aaload (i := oi) (v := (.ref d)) P12 d7_8 AB rfl I_r hp ?_
  refine g_iloadN P12 d7_9 rfl ?_
  refine g_iaload (i := 0) (v := (.int x)) P12 d7_10 AD (by decide) hx ?_
  exact g_retI P12 d7_11 (by decide) (by decide) ⟨rfl, rfl⟩
set_option maxRecDepth 65536 in
set_option maxHeartbeats 40000000 in
theorem rm_clear (l : Launch) (Z : State) (a0 : Array Value) (hw : ∀ d ∈ tables_1, d.before a0 Z = true) (h0 : Heap) (n0 : Nat) (n1 : Nat) (a b c : Addr) (kb kc : ClassId) (cs : List Int32) (ps : List Value) (g10 : n0 ≤ n1) (H : HS Z h0 n1 a b c kb kc cs ps) :
    Met l Z (⟨"com/example/linkwell/linkwell/index/Hits", "clear", "()V"⟩ : MethodName) prog_14_method_6_code 2 none ({ frames := 0, cells := 0, slots := 0, locals := 0 } : Room) n0 #[(.ref a)] h0 (fun v h => v = none ∧ HS Z h n1 a b c kb kc [0, 0, 0, 0, 0] ps ∧ Below n1 h0 h) := by
  refine Met.intro (by decide +kernel) ?_
  intro p e s m below meth cc T0 P0
  refine Go.cast (g' := mkF m 0 #[.val (.ref a), .unset] []) (by first | (simp [entryFrame, mkF, argsToLocals, Value.category, maxLocals]; done) | rfl) ?_
  have lcs : cs.length = 5 := H.2.2.2.2.2.2.2.1
  have turn : ∀ (i : Nat) (iv : Int32) (T : State) (h : Heap) (cs : List Int32), Ix iv i → i < 5 → iv < 5 → Pl p l e ({ frames := 0, cells := 0, slots := 0, locals := 0 } : Room) s m #[(.ref a)] below meth cc Z (⟨"com/example/linkwell/linkwell/index/Hits", "clear", "()V"⟩ : MethodName) prog_14_method_6_code 2 none n0 T h (0) (0) → HS Z h n1 a b c kb kc cs ps → Below n1 h0 h → (∀ T' h', Pl p l e ({ frames := 0, cells := 0, slots := 0, locals := 0 } : Room) s m #[(.ref a)] below meth cc Z (⟨"com/example/linkwell/linkwell/index/Hits", "clear", "()V"⟩ : MethodName) prog_14_method_6_code 2 none n0 T' h' (0) (0) → HS Z h' n1 a b c kb kc (cs.set i 0) ps → Below n1 h0 h' → Go p e below (Done s ({ frames := 0, cells := 0, slots := 0, locals := 0 } : Room) n0 (fun v h => v = none ∧ HS Z h n1 a b c kb kc [0, 0, 0, 0, 0] ps ∧ Below n1 h0 h)) (T'.setTop (mkF m 2 #[.val (.ref a), .val (.int (iv + (1 : Int32)))] []))) → Go p e below (Done s ({ frames := 0, cells := 0, slots := 0, locals := 0 } : Room) n0 (fun v h => v = none ∧ HS Z h n1 a b c kb kc [0, 0, 0, 0, 0] ps ∧ Below n1 h0 h)) (T.setTop (mkF m 2 #[.val (.ref a), .val (.int iv)] [])) := by
    intro i iv T h cs I hi lt P H B G
    obtain ⟨A, F_p, F_c, AB, AC, OB, lp, lc, ⟨ab, ac, bc⟩, ⟨ga, gb, gc⟩, PV⟩ := H
    refine g_iloadN P d3_2 rfl ?_
    refine g_aloadN P d3_3 rfl rfl ?_
    refine g_getF (host := "") P d3_4 (Or.inl (hw _ (List.mem_of_getElem? (i := 30) rfl))) Via.refl F_c fun T13 P13 => ?_
    refine g_arraylength (z := (5 : Int32)) P13 d3_7 AC (by rw [List.length_map, lc]; decide) ?_
    refine g_icmpNo P13 d3_8 (tlt lt).2.1 ?_
    refine g_aloadN P13 d3_11 rfl rfl ?_
    refine g_getF (host := "") P13 d3_12 (Or.inl (hw _ (List.mem_of_getElem? (i := 30) rfl))) Via.refl F_c fun T14 P14 => ?_
    refine g_iloadN P14 d3_15 rfl ?_
    refine g_iconst (v := (0 : Int32)) P14 d3_16 (by rfl) ?_
    refine g_iastore (i := i) P14 d3_17 AC I (by rw [List.length_map]; omega) (by omega) fun T15 h1 P15 W AC => ?_
    rw [map_set'] at AC
    have H1 : HS Z h1 n1 a b c kb kc (cs.set i 0) ps := ⟨A.wr W, F_p.other W (Or.inl ac), F_c.other W (Or.inl ac), AB.other W bc, AC, OB, lp, by rw [List.length_set]; exact lc, ⟨ab, ac, bc⟩, ⟨ga, gb, gc⟩, fun v hv => (PV v hv).wr W⟩
    have B := B.wr W gc
    have F_p := F_p.other W (Or.inl ac)
    have AB := AB.other W bc
    refine g_aloadN P15 d3_18 rfl rfl ?_
    refine g_getF (host := "") P15 d3_19 (Or.inl (hw _ (List.mem_of_getElem? (i := 27) rfl))) Via.refl F_p fun T16 P16 => ?_
    refine g_iloadN P16 d3_22 rfl ?_
    obtain ⟨v, hv⟩ : ∃ v, ps[i]? = some v := ⟨_, List.getElem?_eq_getElem (by omega)⟩
    refine g_aaload (i := i) (v := v) P16 d3_23 AB rfl I hv ?_
    rcases (PV v (List.mem_of_getElem? hv)).wr W with rfl | ⟨d, kd, ld, rfl, AD, l4, -⟩
    · refine g_ifnullYes P16 d3_24 47 (by decide) (by decide) ?_
      refine g_iinc (w := (iv + (1 : Int32))) P16 d3_47 rfl (by rfl) #[.val (.ref a), .val (.int (iv + (1 : Int32)))] rfl ?_
      refine g_goto P16 d3_50 2 (by decide) (by decide) ?_
      exact G _ _ P16 H1 B
    · refine g_ifnullNo P16 d3_24 ?_
      refine g_aloadN P16 d3_27 rfl rfl ?_
      refine g_getF (host := "") P16 d3_28 (Or.inl (hw _ (List.mem_of_getElem? (i := 27) rfl))) Via.refl F_p fun T17 P17 => ?_
      refine g_iloadN P17 d3_31 rfl ?_
      refine g_aaload (i := i) (v := (.ref d)) P17 d3_32 AB rfl I hv ?_
      refine g_arraylength (z := (4 : Int32)) P17 d3_33 AD (by rw [l4]; decide) ?_
      refine g_sipush (v := (256 : Int32)) P17 d3_34 (by rfl) ?_
      refine g_icmpYes P17 d3_37 (by decide) 47 (by decide) (by decide) ?_
      refine g_iinc (w := (iv + (1 : Int32))) P17 d3_47 rfl (by rfl) #[.val (.ref a), .val (.int (iv + (1 : Int32)))] rfl ?_
      refine g_goto P17 d3_50 2 (by decide) (by decide) ?_
      exact G _ _ P17 H1 B
  refine g_iconst (v := (0 : Int32)) P0 d3_0 (by rfl) ?_
  refine g_istoreN P0 d3_1 #[.val (.ref a), .val (.int (0 : Int32))] rfl ?_
  refine turn 0 0 _ _ _ (by decide) (by decide) (by decide) P0 H Below.refl fun T9000 h9000 P9000 H9000 B9000 => ?_
  show Go p e below _ (T9000.setTop (mkF m 2 #[.val (.ref a), .val (.int (1 : Int32))] []))
  refine turn 1 1 _ _ _ (by decide) (by decide) (by decide) P9000 H9000 B9000 fun T9001 h9001 P9001 H9001 B9001 => ?_
  show Go p e below _ (T9001.setTop (mkF m 2 #[.val (.ref a), .val (.int (2 : Int32))] []))
  refine turn 2 2 _ _ _ (by decide) (by decide) (by decide) P9001 H9001 B9001 fun T9002 h9002 P9002 H9002 B9002 => ?_
  show Go p e below _ (T9002.setTop (mkF m 2 #[.val (.ref a), .val (.int (3 : Int32))] []))
  refine turn 3 3 _ _ _ (by decide) (by decide) (by decide) P9002 H9002 B9002 fun T9003 h9003 P9003 H9003 B9003 => ?_
  show Go p e below _ (T9003.setTop (mkF m 2 #[.val (.ref a), .val (.int (4 : Int32))] []))
  refine turn 4 4 _ _ _ (by decide) (by decide) (by decide) P9003 H9003 B9003 fun T9004 h9004 P9004 H9004 B9004 => ?_
  show Go p e below _ (T9004.setTop (mkF m 2 #[.val (.ref a), .val (.int (5 : Int32))] []))
  have H := H9004
  obtain ⟨A, F_p, F_c, AB, AC, OB, lp, lc, ⟨ab, ac, bc⟩, ⟨ga, gb, gc⟩, PV⟩ := H
  refine g_iloadN P9004 d3_2 rfl ?_
  refine g_aloadN P9004 d3_3 rfl rfl ?_
  refine g_getF (host := "") P9004 d3_4 (Or.inl (hw _ (List.mem_of_getElem? (i := 30) rfl))) Via.refl F_c fun T18 P18 => ?_
  refine g_arraylength (z := (5 : Int32)) P18 d3_7 AC (by rw [List.length_map, lc]; decide) ?_
  refine g_icmpYes P18 d3_8 (by decide) 53 (by decide) (by decide) ?_
  have e0 : ((((cs.set 0 0).set 1 0).set 2 0).set 3 0).set 4 0 = [0, 0, 0, 0, 0] := by
    match cs, lcs with
    | [_, _, _, _, _], _ => rfl
  rw [e0] at H9004
  exact g_ret P18 d3_53 (by decide) (by decide) ⟨rfl, H9004, B9004⟩
set_option maxRecDepth 65536 in
set_option maxHeartbeats 40000000 in
theorem rm_add0 (l : Launch) (Z : State) (a0 : Array Value) (hw : ∀ d ∈ tables_1, d.before a0 Z = true) (h0 : Heap) (n0 : Nat) (n1 : Nat) (a b c : Addr) (kb kc : ClassId) (cs : List Int32) (ps : List Value) (r : Addr) (oi : Nat) (ov : Int32) (x : Int32) (g10 : n0 ≤ n1) (H : HS Z h0 n1 a b c kb kc cs ps) (E_r : Exa Z h0 r "com/example/linkwell/linkwell/index/HitKind") (F_r : Fld Z h0 r "java/lang/Enum" "ordinal" "I" (.int ov)) (I_r : Ix ov oi) (hn : cs[oi]? = some (0 : Int32))  :
    Met l Z (⟨"com/example/linkwell/linkwell/index/Hits", "add", "(Lcom/example/linkwell/linkwell/index/HitKind;I)V"⟩ : MethodName) prog_14_method_2_code 5 none ({ frames := 1, cells := 1, slots := 4, locals := 20 } : Room) n0 #[(.ref a), (.ref r), (.int x)] h0 (fun v h => v = none ∧ ∃ ps' d k lst, HS Z h n1 a b c kb kc (cs.set oi 1) ps' ∧ Below n1 h0 h ∧ ps'[oi]? = some (.ref d) ∧ AL Z h d k .int lst ∧ lst.length = 4 ∧ lst[0]? = some (.int x)) := by
  refine Met.intro (by decide +kernel) ?_
  intro p e s m below meth cc T0 P0
  refine Go.cast (g' := mkF m 0 #[.val (.ref a), .val (.ref r), .val (.int x), .unset, .unset] []) (by first | (simp [entryFrame, mkF, argsToLocals, Value.category, maxLocals]; done) | rfl) ?_
  obtain ⟨A, F_p, F_c, AB, AC, OB, lp, lc, ⟨ab, ac, bc⟩, ⟨ga, gb, gc⟩, PV⟩ := H
  refine g_aloadN P0 d6_0 rfl rfl ?_
  refine g_virtualUp P0 r [] (rest := []) (W := 0) (owner := "java/lang/Enum") d6_1 (hw _ (List.mem_of_getElem? (i := 42) rfl)) (hw _ (List.mem_of_getElem? (i := 43) rfl)) (hw _ (List.mem_of_getElem? (i := 44) rfl)) (by decide) (hw _ (List.mem_of_getElem? (i := 46) rfl)) (hw _ (List.mem_of_getElem? (i := 45) rfl)) (hw _ (List.mem_of_getElem? (i := 47) rfl)) (hw _ (List.mem_of_getElem? (i := 48) rfl)) E_r (rm_ordinal l Z a0 hw h0 n0 r ov F_r) pd_0 rfl rfl rfl rfl (by decide) (by decide) (by decide) (by decide) fun v19 T19 h19 P19 q19 => ?_
  obtain ⟨rfl, rfl⟩ := q19
  refine g_istoreN P19 d6_4 #[.val (.ref a), .val (.ref r), .val (.int x), .val (.int ov), .unset] rfl ?_
  refine g_aloadN P19 d6_5 rfl rfl ?_
  refine g_getF (host := "") P19 d6_6 (Or.inl (hw _ (List.mem_of_getElem? (i := 30) rfl))) Via.refl F_c fun T20 P20 => ?_
  refine g_iloadN P20 d6_9 rfl ?_
  refine g_iaload (i := oi) (v := (.int (0 : Int32))) P20 d6_10 AC I_r (map_get hn) ?_
  refine g_istore P20 d6_11 #[.val (.ref a), .val (.ref r), .val (.int x), .val (.int ov), .val (.int (0 : Int32))] rfl ?_
  refine g_iload P20 d6_13 rfl ?_
  refine g_ifYes P20 d6_15 (by decide) 62 (by decide) (by decide) ?_
  refine g_aloadN P20 d6_62 rfl rfl ?_
  refine g_getF (host := "") P20 d6_63 (Or.inl (hw _ (List.mem_of_getElem? (i := 27) rfl))) Via.refl F_p fun T21 P21 => ?_
  refine g_iloadN P21 d6_66 rfl ?_
  obtain ⟨v, hv⟩ : ∃ v, ps[oi]? = some v := ⟨_, List.getElem?_eq_getElem (by rw [lp, ← lc]; exact (List.getElem?_eq_some_iff.mp hn).1)⟩
  refine g_aaload (i := oi) (v := v) P21 d6_67 AB rfl I_r hv ?_
  have ho : oi < 5 := by rw [← lc]; exact (List.getElem?_eq_some_iff.mp hn).1
  rcases PV v (List.mem_of_getElem? hv) with rfl | ⟨d, kd, ld, rfl, AD, l4, gd, da, db, dc⟩
  · refine g_ifnonnullNo P21 d6_68 ?_
    refine g_aloadN P21 d6_71 rfl rfl ?_
    refine g_getF (host := "") P21 d6_72 (Or.inl (hw _ (List.mem_of_getElem? (i := 27) rfl))) Via.refl F_p fun T22 P22 => ?_
    refine g_iloadN P22 d6_75 rfl ?_
    refine g_iconst (v := (4 : Int32)) P22 d6_76 (by rfl) ?_
    refine g_newarray P22 d6_77 (hw _ (List.mem_of_getElem? (i := 29) rfl)) (by decide) 4 (by decide) (by decide) (by decide) (by decide) "[I" (by decide) fun T23 h23 d k23 P23 e23 E23 AD X_d => ?_
    have AD : AL Z h23 d k23 .int [(.int 0), (.int 0), (.int 0), (.int 0)] := AD
    have lA := ltN A.lt
    have lB := ltN AB.lt
    have lC := ltN AC.lt
    have da : d ≠ a := nN (by omega)
    have db : d ≠ b := nN (by omega)
    have dc : d ≠ c := nN (by omega)
    have gd : n1 ≤ d := by omega
    have A := A.ext E23
    have F_p := F_p.ext E23
    have F_c := F_c.ext E23
    have AB := AB.ext E23
    have AC := AC.ext E23
    have PV := fun v hv => (PV v hv).ext E23
    have B := (Below.refl (n1 := n1) (h := h0)).ext E23
    refine g_aastore (i := oi) P23 d6_79 AB rfl I_r (by omega) (AB.stoA OB (Ins.self X_d)) (by omega) fun T24 h20 P24 W AB => ?_
    have A := A.wr W
    have F_p := F_p.other W (Or.inl ab)
    have F_c := F_c.other W (Or.inl ab)
    have AC := AC.other W (Ne.symm bc)
    have AD := AD.other W db
    have l4 : ([.int 0, .int 0, .int 0, .int 0] : List Value).length = 4 := rfl
    have PV : ∀ v ∈ ps.set oi (.ref d), PosV Z h20 n1 a b c v := fun v hv => (mem_set hv).elim (fun q => (PV v q).wr W) (fun q => Or.inr ⟨d, _, _, q, AD, l4, gd, da, db, dc⟩)
    have B := B.wr W gb
    have hp : (ps.set oi (.ref d))[oi]? = some (.ref d) := by rw [List.getElem?_set_self (by omega)]
    have lp : (ps.set oi (.ref d)).length = 5 := by rw [List.length_set]; exact lp
    refine g_goto P24 d6_80 114 (by decide) (by decide) ?_
    refine g_aloadN P24 d6_114 rfl rfl ?_
    refine g_getF (host := "") P24 d6_115 (Or.inl (hw _ (List.mem_of_getElem? (i := 27) rfl))) Via.refl F_p fun T25 P25 => ?_
    refine g_iloadN P25 d6_118 rfl ?_
    refine g_aaload (i := oi) (v := (.ref d)) P25 d6_119 AB rfl I_r hp ?_
    refine g_iload P25 d6_120 rfl ?_
    refine g_iloadN P25 d6_122 rfl ?_
    refine g_iastore (i := 0) P25 d6_123 AD (by decide) (by omega) (by omega) fun T26 h21 P26 W1 AD => ?_
    have A := A.wr W1
    have F_p := F_p.other W1 (Or.inl (Ne.symm da))
    have F_c := F_c.other W1 (Or.inl (Ne.symm da))
    have AB := AB.other W1 (Ne.symm db)
    have AC := AC.other W1 (Ne.symm dc)
    have PV := fun v hv => (PV v hv).wr W1
    have B := B.wr W1 gd
    refine g_aloadN P26 d6_124 rfl rfl ?_
    refine g_getF (host := "") P26 d6_125 (Or.inl (hw _ (List.mem_of_getElem? (i := 30) rfl))) Via.refl F_c fun T27 P27 => ?_
    refine g_iloadN P27 d6_128 rfl ?_
    refine g_iload P27 d6_129 rfl ?_
    refine g_iconst (v := (1 : Int32)) P27 d6_131 (by rfl) ?_
    refine g_iadd (v := (1 : Int32)) P27 d6_132 (by decide) ?_
    refine g_iastore (i := oi) P27 d6_133 AC I_r (by rw [List.length_map]; exact (List.getElem?_eq_some_iff.mp hn).1) (by omega) fun T28 h22 P28 W2 AC => ?_
    rw [map_set'] at AC
    have A := A.wr W2
    have F_p := F_p.other W2 (Or.inl ac)
    have F_c := F_c.other W2 (Or.inl ac)
    have AB := AB.other W2 bc
    have AD := AD.other W2 dc
    have PV := fun v hv => (PV v hv).wr W2
    have B := B.wr W2 gc
    exact g_ret P28 d6_134 (by decide) (by decide) ⟨rfl, _, d, _, _, ⟨A, F_p, F_c, AB, AC, OB, lp, by rw [List.length_set]; exact lc, ⟨ab, ac, bc⟩, ⟨ga, gb, gc⟩, PV⟩, B, hp, AD, by rw [List.length_set]; exact l4, by rw [List.getElem?_set_self (by omega)]⟩
  · have hp := hv
    refine g_ifnonnullYes P21 d6_68 83 (by decide) (by decide) ?_
    refine g_iload P21 d6_83 rfl ?_
    refine g_aloadN P21 d6_85 rfl rfl ?_
    refine g_getF (host := "") P21 d6_86 (Or.inl (hw _ (List.mem_of_getElem? (i := 27) rfl))) Via.refl F_p fun T29 P29 => ?_
    refine g_iloadN P29 d6_89 rfl ?_
    refine g_aaload (i := oi) (v := (.ref d)) P29 d6_90 AB rfl I_r hp ?_
    refine g_arraylength (z := (4 : Int32)) P29 d6_91 AD (by rw [l4]; decide) ?_
    refine g_icmpYes P29 d6_92 (by decide) 114 (by decide) (by decide) ?_
    refine g_aloadN P29 d6_114 rfl rfl ?_
    have B := Below.refl (n1 := n1) (h := h0)
    refine g_getF (host := "") P29 d6_115 (Or.inl (hw _ (List.mem_of_getElem? (i := 27) rfl))) Via.refl F_p fun T30 P30 => ?_
    refine g_iloadN P30 d6_118 rfl ?_
    refine g_aaload (i := oi) (v := (.ref d)) P30 d6_119 AB rfl I_r hp ?_
    refine g_iload P30 d6_120 rfl ?_
    refine g_iloadN P30 d6_122 rfl ?_
    refine g_iastore (i := 0) P30 d6_123 AD (by decide) (by omega) (by omega) fun T31 h21 P31 W1 AD => ?_
    have A := A.wr W1
    have F_p := F_p.other W1 (Or.inl (Ne.symm da))
    have F_c := F_c.other W1 (Or.inl (Ne.symm da))
    have AB := AB.other W1 (Ne.symm db)
    have AC := AC.other W1 (Ne.symm dc)
    have PV := fun v hv => (PV v hv).wr W1
    have B := B.wr W1 gd
    refine g_aloadN P31 d6_124 rfl rfl ?_
    refine g_getF (host := "") P31 d6_125 (Or.inl (hw _ (List.mem_of_getElem? (i := 30) rfl))) Via.refl F_c fun T32 P32 => ?_
    refine g_iloadN P32 d6_128 rfl ?_
    refine g_iload P32 d6_129 rfl ?_
    refine g_iconst (v := (1 : Int32)) P32 d6_131 (by rfl) ?_
    refine g_iadd (v := (1 : Int32)) P32 d6_132 (by decide) ?_
    refine g_iastore (i := oi) P32 d6_133 AC I_r (by rw [List.length_map]; exact (List.getElem?_eq_some_iff.mp hn).1) (by omega) fun T33 h22 P33 W2 AC => ?_
    rw [map_set'] at AC
    have A := A.wr W2
    have F_p := F_p.other W2 (Or.inl ac)
    have F_c := F_c.other W2 (Or.inl ac)
    have AB := AB.other W2 bc
    have AD := AD.other W2 dc
    have PV := fun v hv => (PV v hv).wr W2
    have B := B.wr W2 gc
    exact g_ret P33 d6_134 (by decide) (by decide) ⟨rfl, _, d, _, _, ⟨A, F_p, F_c, AB, AC, OB, lp, by rw [List.length_set]; exact lc, ⟨ab, ac, bc⟩, ⟨ga, gb, gc⟩, PV⟩, B, hp, AD, by rw [List.length_set]; exact l4, by rw [List.getElem?_set_self (by omega)]⟩
set_option maxRecDepth 65536 in
set_option maxHeartbeats 40000000 in
theorem rm_add1 (l : Launch) (Z : State) (a0 : Array Value) (hw : ∀ d ∈ tables_1, d.before a0 Z = true) (h0 : Heap) (n0 : Nat) (n1 : Nat) (a b c : Addr) (kb kc : ClassId) (cs : List Int32) (ps : List Value) (r : Addr) (oi : Nat) (ov : Int32) (x : Int32) (d : Addr) (kd : ClassId) (ld : List Value) (x0 : Int32) (g10 : n0 ≤ n1) (H : HS Z h0 n1 a b c kb kc cs ps) (E_r : Exa Z h0 r "com/example/linkwell/linkwell/index/HitKind") (F_r : Fld Z h0 r "java/lang/Enum" "ordinal" "I" (.int ov)) (I_r : Ix ov oi) (hn : cs[oi]? = some (1 : Int32)) (hp : ps[oi]? = some (.ref d)) (AD : AL Z h0 d kd .int ld) (l4 : ld.length = 4) (hx0 : ld[0]? = some (.int x0)) (hlt : x0 < x) :
    Met l Z (⟨"com/example/linkwell/linkwell/index/Hits", "add", "(Lcom/example/linkwell/linkwell/index/HitKind;I)V"⟩ : MethodName) prog_14_method_2_code 5 none ({ frames := 1, cells := 1, slots := 4, locals := 20 } : Room) n0 #[(.ref a), (.ref r), (.int x)] h0 (fun v h => v = none ∧ ∃ ps' d k lst, HS Z h n1 a b c kb kc (cs.set oi 2) ps' ∧ Below n1 h0 h ∧ ps'[oi]? = some (.ref d) ∧ AL Z h d k .int lst ∧ lst.length = 4 ∧ lst[1]? = some (.int x)) := by
  refine Met.intro (by decide +kernel) ?_
  intro p e s m below meth cc T0 P0
  refine Go.cast (g' := mkF m 0 #[.val (.ref a), .val (.ref r), .val (.int x), .unset, .unset] []) (by first | (simp [entryFrame, mkF, argsToLocals, Value.category, maxLocals]; done) | rfl) ?_
  obtain ⟨A, F_p, F_c, AB, AC, OB, lp, lc, ⟨ab, ac, bc⟩, ⟨ga, gb, gc⟩, PV⟩ := H
  refine g_aloadN P0 d6_0 rfl rfl ?_
  refine g_virtualUp P0 r [] (rest := []) (W := 0) (owner := "java/lang/Enum") d6_1 (hw _ (List.mem_of_getElem? (i := 42) rfl)) (hw _ (List.mem_of_getElem? (i := 43) rfl)) (hw _ (List.mem_of_getElem? (i := 44) rfl)) (by decide) (hw _ (List.mem_of_getElem? (i := 46) rfl)) (hw _ (List.mem_of_getElem? (i := 45) rfl)) (hw _ (List.mem_of_getElem? (i := 47) rfl)) (hw _ (List.mem_of_getElem? (i := 48) rfl)) E_r (rm_ordinal l Z a0 hw h0 n0 r ov F_r) pd_0 rfl rfl rfl rfl (by decide) (by decide) (by decide) (by decide) fun v34 T34 h34 P34 q34 => ?_
  obtain ⟨rfl, rfl⟩ := q34
  refine g_istoreN P34 d6_4 #[.val (.ref a), .val (.ref r), .val (.int x), .val (.int ov), .unset] rfl ?_
  refine g_aloadN P34 d6_5 rfl rfl ?_
  refine g_getF (host := "") P34 d6_6 (Or.inl (hw _ (List.mem_of_getElem? (i := 30) rfl))) Via.refl F_c fun T35 P35 => ?_
  refine g_iloadN P35 d6_9 rfl ?_
  refine g_iaload (i := oi) (v := (.int (1 : Int32))) P35 d6_10 AC I_r (map_get hn) ?_
  refine g_istore P35 d6_11 #[.val (.ref a), .val (.ref r), .val (.int x), .val (.int ov), .val (.int (1 : Int32))] rfl ?_
  refine g_iload P35 d6_13 rfl ?_
  refine g_ifNo P35 d6_15 (by decide) ?_
  refine g_aloadN P35 d6_18 rfl rfl ?_
  rcases PV _ (List.mem_of_getElem? hp) with q | ⟨d', k', l', ed, A', l4', gd, da, db, dc⟩
  · cases q
  cases ed
  refine g_getF (host := "") P35 d6_19 (Or.inl (hw _ (List.mem_of_getElem? (i := 27) rfl))) Via.refl F_p fun T36 P36 => ?_
  refine g_iloadN P36 d6_22 rfl ?_
  refine g_aaload (i := oi) (v := (.ref d)) P36 d6_23 AB rfl I_r hp ?_
  refine g_iload P36 d6_24 rfl ?_
  refine g_iconst (v := (1 : Int32)) P36 d6_26 (by rfl) ?_
  refine g_isub (v := (0 : Int32)) P36 d6_27 (by decide) ?_
  refine g_iaload (i := 0) (v := (.int x0)) P36 d6_28 AD (by decide) hx0 ?_
  refine g_iloadN P36 d6_29 rfl ?_
  refine g_icmpYes P36 d6_30 (tlt hlt).1 62 (by decide) (by decide) ?_
  refine g_aloadN P36 d6_62 rfl rfl ?_
  refine g_getF (host := "") P36 d6_63 (Or.inl (hw _ (List.mem_of_getElem? (i := 27) rfl))) Via.refl F_p fun T37 P37 => ?_
  refine g_iloadN P37 d6_66 rfl ?_
  refine g_aaload (i := oi) (v := (.ref d)) P37 d6_67 AB rfl I_r hp ?_
  refine g_ifnonnullYes P37 d6_68 83 (by decide) (by decide) ?_
  refine g_iload P37 d6_83 rfl ?_
  refine g_aloadN P37 d6_85 rfl rfl ?_
  refine g_getF (host := "") P37 d6_86 (Or.inl (hw _ (List.mem_of_getElem? (i := 27) rfl))) Via.refl F_p fun T38 P38 => ?_
  refine g_iloadN P38 d6_89 rfl ?_
  refine g_aaload (i := oi) (v := (.ref d)) P38 d6_90 AB rfl I_r hp ?_
  refine g_arraylength (z := (4 : Int32)) P38 d6_91 AD (by rw [l4]; decide) ?_
  refine g_icmpYes P38 d6_92 (by decide) 114 (by decide) (by decide) ?_
  refine g_aloadN P38 d6_114 rfl rfl ?_
  have B := Below.refl (n1 := n1) (h := h0)
  refine g_getF (host := "") P38 d6_115 (Or.inl (hw _ (List.mem_of_getElem? (i := 27) rfl))) Via.refl F_p fun T39 P39 => ?_
  refine g_iloadN P39 d6_118 rfl ?_
  refine g_aaload (i := oi) (v := (.ref d)) P39 d6_119 AB rfl I_r hp ?_
  refine g_iload P39 d6_120 rfl ?_
  refine g_iloadN P39 d6_122 rfl ?_
  refine g_iastore (i := 1) P39 d6_123 AD (by decide) (by omega) (by omega) fun T40 h21 P40 W1 AD => ?_
  have A := A.wr W1
  have F_p := F_p.other W1 (Or.inl (Ne.symm da))
  have F_c := F_c.other W1 (Or.inl (Ne.symm da))
  have AB := AB.other W1 (Ne.symm db)
  have AC := AC.other W1 (Ne.symm dc)
  have PV := fun v hv => (PV v hv).wr W1
  have B := B.wr W1 gd
  refine g_aloadN P40 d6_124 rfl rfl ?_
  refine g_getF (host := "") P40 d6_125 (Or.inl (hw _ (List.mem_of_getElem? (i := 30) rfl))) Via.refl F_c fun T41 P41 => ?_
  refine g_iloadN P41 d6_128 rfl ?_
  refine g_iload P41 d6_129 rfl ?_
  refine g_iconst (v := (1 : Int32)) P41 d6_131 (by rfl) ?_
  refine g_iadd (v := (2 : Int32)) P41 d6_132 (by decide) ?_
  refine g_iastore (i := oi) P41 d6_133 AC I_r (by rw [List.length_map]; exact (List.getElem?_eq_some_iff.mp hn).1) (by omega) fun T42 h22 P42 W2 AC => ?_
  rw [map_set'] at AC
  have A := A.wr W2
  have F_p := F_p.other W2 (Or.inl ac)
  have F_c := F_c.other W2 (Or.inl ac)
  have AB := AB.other W2 bc
  have AD := AD.other W2 dc
  have PV := fun v hv => (PV v hv).wr W2
  have B := B.wr W2 gc
  exact g_ret P42 d6_134 (by decide) (by decide) ⟨rfl, _, d, _, _, ⟨A, F_p, F_c, AB, AC, OB, lp, by rw [List.length_set]; exact lc, ⟨ab, ac, bc⟩, ⟨ga, gb, gc⟩, PV⟩, B, hp, AD, by rw [List.length_set]; exact l4, by rw [List.getElem?_set_self (by omega)]⟩
theorem zero_get : ∀ i < 5, ([0, 0, 0, 0, 0] : List Int32)[i]? = some 0 := by decide
theorem Ix.inj {i j : Int32} {o : Nat} (I : Ix i o) (J : Ix j o) : i = j := by
  obtain ⟨i1, i2⟩ := I; obtain ⟨j1, j2⟩ := J
  rw [Int32.lt_iff_toInt_lt] at i1 j1
  have z : (0 : Int32).toInt = 0 := rfl
  simp only [Int32.toNatClampNeg] at i2 j2
  exact i32_of (by omega)
theorem and255 (x : Int32) : 0 ≤ ((x &&& (255 : Int32)) % (5 : Int32)).toInt ∧ ((x &&& (255 : Int32)) % (5 : Int32)).toInt < (5 : Int32).toInt := by
  rw [Jvm.Kit.i32_rem_nonneg (by rw [Jvm.Kit.i32_mask x 255 (k := 8) (by decide) (by decide)]; exact Int.emod_nonneg _ (by decide))]
  exact ⟨Int.emod_nonneg _ (by decide), Int.emod_lt_of_pos _ (by decide)⟩
set_option maxRecDepth 65536 in
set_option maxHeartbeats 40000000 in
theorem rm_law (l : Launch) (Z : State) (a0 : Array Value) (hw : ∀ d ∈ tables_1, d.before a0 Z = true) (h0 : Heap) (n0 : Nat) (a_TITLE a_HEADING a_URL a_ANCHOR a_PLAIN a_KINDS : Addr) (kK : ClassId) (vK : List Value) (p1 p2 p3 p4 p5 : Int32) (Z0 : n0 ≤ h0.size) (S_TITLE : Sta Z h0 "com/example/linkwell/linkwell/index/HitKind" "TITLE" "Lcom/example/linkwell/linkwell/index/HitKind;" (.ref a_TITLE)) (S_HEADING : Sta Z h0 "com/example/linkwell/linkwell/index/HitKind" "HEADING" "Lcom/example/linkwell/linkwell/index/HitKind;" (.ref a_HEADING)) (S_URL : Sta Z h0 "com/example/linkwell/linkwell/index/HitKind" "URL" "Lcom/example/linkwell/linkwell/index/HitKind;" (.ref a_URL)) (S_ANCHOR : Sta Z h0 "com/example/linkwell/linkwell/index/HitKind" "ANCHOR" "Lcom/example/linkwell/linkwell/index/HitKind;" (.ref a_ANCHOR)) (S_PLAIN : Sta Z h0 "com/example/linkwell/linkwell/index/HitKind" "PLAIN" "Lcom/example/linkwell/linkwell/index/HitKind;" (.ref a_PLAIN)) (E_TITLE : Exa Z h0 a_TITLE "com/example/linkwell/linkwell/index/HitKind") (E_HEADING : Exa Z h0 a_HEADING "com/example/linkwell/linkwell/index/HitKind") (E_URL : Exa Z h0 a_URL "com/example/linkwell/linkwell/index/HitKind") (E_ANCHOR : Exa Z h0 a_ANCHOR "com/example/linkwell/linkwell/index/HitKind") (E_PLAIN : Exa Z h0 a_PLAIN "com/example/linkwell/linkwell/index/HitKind") (F_TITLE : Fld Z h0 a_TITLE "java/lang/Enum" "ordinal" "I" (.int (0 : Int32))) (F_HEADING : Fld Z h0 a_HEADING "java/lang/Enum" "ordinal" "I" (.int (1 : Int32))) (F_URL : Fld Z h0 a_URL "java/lang/Enum" "ordinal" "I" (.int (2 : Int32))) (F_ANCHOR : Fld Z h0 a_ANCHOR "java/lang/Enum" "ordinal" "I" (.int (3 : Int32))) (F_PLAIN : Fld Z h0 a_PLAIN "java/lang/Enum" "ordinal" "I" (.int (4 : Int32))) (S_KINDS : Sta Z h0 "com/example/linkwell/linkwell/index/Hits" "KINDS" "[Lcom/example/linkwell/linkwell/index/HitKind;" (.ref a_KINDS)) (A_KINDS : AL Z h0 a_KINDS kK (.object "com/example/linkwell/linkwell/index/HitKind") vK) (z_KINDS : vK.length.toInt32 = 5) :
    Met l Z x code maxLocals ret room_1 n0 #[(.int p1), (.int p2), (.int p3), (.int p4), (.int p5)] h0 (fun v _ => v = some (.int 1)) := by
  refine Met.intro (by decide +kernel) ?_
  intro p e s m below meth cc T0 P0
  refine Go.cast (g' := mkF m 0 #[.val (.int p1), .val (.int p2), .val (.int p3), .val (.int p4), .val (.int p5), .unset, .unset, .unset, .unset, .unset, .unset, .unset, .unset] []) (by first | (simp [entryFrame, mkF, argsToLocals, Value.category, maxLocals]; done) | rfl) ?_
  refine g_iconst (v := (5 : Int32)) P0 d0_0 (by rfl) ?_
  refine g_anewarray P0 d0_1 (hw _ (List.mem_of_getElem? (i := 0) rfl)) (hw _ (List.mem_of_getElem? (i := 1) rfl)) (by decide) 5 (by decide) (by decide) (by decide) (by decide) "[Lcom/example/linkwell/linkwell/index/HitKind;" (by decide) fun T43 h43 ka kk P43 ek E43 AK Xk OK => ?_
  have X := E43
  have gka : h0.size ≤ ka := by omega
  have gk : n0 ≤ ka := by omega
  have AK : AL Z h43 ka kk (.object "com/example/linkwell/linkwell/index/HitKind") [.null, .null, .null, .null, .null] := AK
  refine g_dup P43 d0_4 rfl ?_
  refine g_iconst (v := (0 : Int32)) P43 d0_5 (by rfl) ?_
  refine g_getS (host := "") P43 d0_6 (Or.inl (hw _ (List.mem_of_getElem? (i := 2) rfl))) Via.refl (S_TITLE.ext X) fun T44 P44 => ?_
  refine g_aastore (i := 0) P44 d0_9 AK rfl (by decide) (dT rfl) (AK.sto OK (Ins.self (E_TITLE.ext X))) gk fun T45 h45 P45 W45 AK => ?_
  have AK : AL Z h45 ka kk (.object "com/example/linkwell/linkwell/index/HitKind") [.ref a_TITLE, .null, .null, .null, .null] := AK
  have X := ext_wr X W45 gka
  refine g_dup P45 d0_10 rfl ?_
  refine g_iconst (v := (1 : Int32)) P45 d0_11 (by rfl) ?_
  refine g_getS (host := "") P45 d0_12 (Or.inl (hw _ (List.mem_of_getElem? (i := 6) rfl))) Via.refl (S_HEADING.ext X) fun T46 P46 => ?_
  refine g_aastore (i := 1) P46 d0_15 AK rfl (by decide) (dT rfl) (AK.sto OK (Ins.self (E_HEADING.ext X))) gk fun T47 h47 P47 W47 AK => ?_
  have AK : AL Z h47 ka kk (.object "com/example/linkwell/linkwell/index/HitKind") [.ref a_TITLE, .ref a_HEADING, .null, .null, .null] := AK
  have X := ext_wr X W47 gka
  refine g_dup P47 d0_16 rfl ?_
  refine g_iconst (v := (2 : Int32)) P47 d0_17 (by rfl) ?_
  refine g_getS (host := "") P47 d0_18 (Or.inl (hw _ (List.mem_of_getElem? (i := 8) rfl))) Via.refl (S_URL.ext X) fun T48 P48 => ?_
  refine g_aastore (i := 2) P48 d0_21 AK rfl (by decide) (dT rfl) (AK.sto OK (Ins.self (E_URL.ext X))) gk fun T49 h49 P49 W49 AK => ?_
  have AK : AL Z h49 ka kk (.object "com/example/linkwell/linkwell/index/HitKind") [.ref a_TITLE, .ref a_HEADING, .ref a_URL, .null, .null] := AK
  have X := ext_wr X W49 gka
  refine g_dup P49 d0_22 rfl ?_
  refine g_iconst (v := (3 : Int32)) P49 d0_23 (by rfl) ?_
  refine g_getS (host := "") P49 d0_24 (Or.inl (hw _ (List.mem_of_getElem? (i := 10) rfl))) Via.refl (S_ANCHOR.ext X) fun T50 P50 => ?_
  refine g_aastore (i := 3) P50 d0_27 AK rfl (by decide) (dT rfl) (AK.sto OK (Ins.self (E_ANCHOR.ext X))) gk fun T51 h51 P51 W51 AK => ?_
  have AK : AL Z h51 ka kk (.object "com/example/linkwell/linkwell/index/HitKind") [.ref a_TITLE, .ref a_HEADING, .ref a_URL, .ref a_ANCHOR, .null] := AK
  have X := ext_wr X W51 gka
  refine g_dup P51 d0_28 rfl ?_
  refine g_iconst (v := (4 : Int32)) P51 d0_29 (by rfl) ?_
  refine g_getS (host := "") P51 d0_30 (Or.inl (hw _ (List.mem_of_getElem? (i := 12) rfl))) Via.refl (S_PLAIN.ext X) fun T52 P52 => ?_
  refine g_aastore (i := 4) P52 d0_33 AK rfl (by decide) (dT rfl) (AK.sto OK (Ins.self (E_PLAIN.ext X))) gk fun T53 h53 P53 W53 AK => ?_
  have AK : AL Z h53 ka kk (.object "com/example/linkwell/linkwell/index/HitKind") [.ref a_TITLE, .ref a_HEADING, .ref a_URL, .ref a_ANCHOR, .ref a_PLAIN] := AK
  have X := ext_wr X W53 gka
  have kinds : ∀ (i : Int32), (0 ≤ i.toInt ∧ i.toInt < (5 : Int32).toInt) → ∃ r oi, ([.ref a_TITLE, .ref a_HEADING, .ref a_URL, .ref a_ANCHOR, .ref a_PLAIN] : List Value)[oi]? = some (.ref r) ∧ Exa Z h0 r "com/example/linkwell/linkwell/index/HitKind" ∧ Fld Z h0 r "java/lang/Enum" "ordinal" "I" (.int i) ∧ Ix i oi ∧ oi < 5 := by
    intro i hi
    rcases cases5 hi with rfl | rfl | rfl | rfl | rfl
    · exact ⟨a_TITLE, 0, rfl, E_TITLE, F_TITLE, by decide, by decide⟩
    · exact ⟨a_HEADING, 1, rfl, E_HEADING, F_HEADING, by decide, by decide⟩
    · exact ⟨a_URL, 2, rfl, E_URL, F_URL, by decide, by decide⟩
    · exact ⟨a_ANCHOR, 3, rfl, E_ANCHOR, F_ANCHOR, by decide, by decide⟩
    · exact ⟨a_PLAIN, 4, rfl, E_PLAIN, F_PLAIN, by decide, by decide⟩
  refine g_astore P53 d0_34 rfl #[.val (.int p1), .val (.int p2), .val (.int p3), .val (.int p4), .val (.int p5), .val (.ref ka), .unset, .unset, .unset, .unset, .unset, .unset, .unset] rfl ?_
  refine g_iloadN P53 d0_36 rfl ?_
  refine g_sipush (v := (255 : Int32)) P53 d0_37 (by rfl) ?_
  refine g_iand (v := (p2 &&& (255 : Int32))) P53 d0_40 rfl ?_
  refine g_iconst (v := (5 : Int32)) P53 d0_41 (by rfl) ?_
  refine g_irem (v := ((p2 &&& (255 : Int32)) % (5 : Int32))) P53 d0_42 (by decide) rfl ?_
  have hbi := and255 p2
  generalize ((p2 &&& (255 : Int32)) % (5 : Int32)) = i at hbi ⊢
  obtain ⟨ri, oi, gi, Ei, Fi, Ii, li⟩ := kinds i hbi
  refine g_istore P53 d0_43 #[.val (.int p1), .val (.int p2), .val (.int p3), .val (.int p4), .val (.int p5), .val (.ref ka), .val (.int i), .unset, .unset, .unset, .unset, .unset, .unset] rfl ?_
  refine g_iloadN P53 d0_45 rfl ?_
  refine g_bipush (v := (8 : Int32)) P53 d0_46 (by rfl) ?_
  refine g_iushr (v := (XT.ushr p2 (8 : Int32))) P53 d0_48 rfl ?_
  refine g_sipush (v := (255 : Int32)) P53 d0_49 (by rfl) ?_
  refine g_iand (v := ((XT.ushr p2 (8 : Int32)) &&& (255 : Int32))) P53 d0_52 rfl ?_
  refine g_iconst (v := (5 : Int32)) P53 d0_53 (by rfl) ?_
  refine g_irem (v := (((XT.ushr p2 (8 : Int32)) &&& (255 : Int32)) % (5 : Int32))) P53 d0_54 (by decide) rfl ?_
  have hbj := and255 (XT.ushr p2 (8 : Int32))
  generalize (((XT.ushr p2 (8 : Int32)) &&& (255 : Int32)) % (5 : Int32)) = j at hbj ⊢
  obtain ⟨rj, oj, gj, Ej, Fj, Ij, lj⟩ := kinds j hbj
  refine g_istore P53 d0_55 #[.val (.int p1), .val (.int p2), .val (.int p3), .val (.int p4), .val (.int p5), .val (.ref ka), .val (.int i), .val (.int j), .unset, .unset, .unset, .unset, .unset] rfl ?_
  refine g_iloadN P53 d0_57 rfl ?_
  refine g_bipush (v := (16 : Int32)) P53 d0_58 (by rfl) ?_
  refine g_iushr (v := (XT.ushr p2 (16 : Int32))) P53 d0_60 rfl ?_
  refine g_sipush (v := (255 : Int32)) P53 d0_61 (by rfl) ?_
  refine g_iand (v := ((XT.ushr p2 (16 : Int32)) &&& (255 : Int32))) P53 d0_64 rfl ?_
  refine g_iconst (v := (5 : Int32)) P53 d0_65 (by rfl) ?_
  refine g_irem (v := (((XT.ushr p2 (16 : Int32)) &&& (255 : Int32)) % (5 : Int32))) P53 d0_66 (by decide) rfl ?_
  have hbmm := and255 (XT.ushr p2 (16 : Int32))
  generalize (((XT.ushr p2 (16 : Int32)) &&& (255 : Int32)) % (5 : Int32)) = mm at hbmm ⊢
  obtain ⟨rmm, omm, gmm, Emm, Fmm, Imm, lmm⟩ := kinds mm hbmm
  refine g_istore P53 d0_67 #[.val (.int p1), .val (.int p2), .val (.int p3), .val (.int p4), .val (.int p5), .val (.ref ka), .val (.int i), .val (.int j), .val (.int mm), .unset, .unset, .unset, .unset] rfl ?_
  have rest : ∀ (T : State) (h : Heap) (f9 f10 : Int32) (a b c : Addr) (kb kc : ClassId) (cs : List Int32) (ps : List Value), Pl p l e room_1 s m #[(.int p1), (.int p2), (.int p3), (.int p4), (.int p5)] below meth cc Z x code maxLocals ret n0 T h (6) (25) → HS Z h a a b c kb kc cs ps → Ext h0 h → AL Z h ka kk (.object "com/example/linkwell/linkwell/index/HitKind") [.ref a_TITLE, .ref a_HEADING, .ref a_URL, .ref a_ANCHOR, .ref a_PLAIN] → n0 ≤ a → ka < a → Go p e below (Done s room_1 n0 (fun v _ => v = some (.int 1))) (T.setTop (mkF m 161 #[.val (.int p1), .val (.int p2), .val (.int p3), .val (.int p4), .val (.int p5), .val (.ref ka), .val (.int i), .val (.int j), .val (.int mm), .val (.int f9), .val (.int f10), .val (.ref a), .unset] [])) := by
    intro T h f9 f10 a b c kb kc cs ps P H X AK g10 lk
    refine g_aload P d0_161 rfl rfl ?_
    refine g_virtual P a [] (rest := []) (W := 0) d0_163 (hw _ (List.mem_of_getElem? (i := 32) rfl)) (hw _ (List.mem_of_getElem? (i := 33) rfl)) (hw _ (List.mem_of_getElem? (i := 35) rfl)) (hw _ (List.mem_of_getElem? (i := 34) rfl)) (hw _ (List.mem_of_getElem? (i := 16) rfl)) (hw _ (List.mem_of_getElem? (i := 36) rfl)) (by decide) H.1 (rm_clear l Z a0 hw _ n0 a a b c kb kc cs ps g10 H) pd_1 rfl rfl rfl rfl (by decide) (by decide) (by decide) (by decide) fun v54 T54 h54 P54 q54 => ?_
    obtain ⟨rfl, H, B⟩ := q54
    have X := ext_below X B (by omega)
    have AK := AK.blw B lk
    refine g_aload P54 d0_166 rfl rfl ?_
    refine g_aload P54 d0_168 rfl rfl ?_
    refine g_iload P54 d0_170 rfl ?_
    refine g_aaload (i := oi) (v := (.ref ri)) P54 d0_172 AK rfl Ii gi ?_
    refine g_virtual P54 a [(.ref ri)] (rest := []) (W := 0) d0_173 (hw _ (List.mem_of_getElem? (i := 37) rfl)) (hw _ (List.mem_of_getElem? (i := 38) rfl)) (hw _ (List.mem_of_getElem? (i := 40) rfl)) (hw _ (List.mem_of_getElem? (i := 39) rfl)) (hw _ (List.mem_of_getElem? (i := 16) rfl)) (hw _ (List.mem_of_getElem? (i := 41) rfl)) (by decide) H.1 (rm_count l Z a0 hw _ n0 a a b c kb kc _ _ ri oi i 0 H (Ei.ext X) (Fi.ext X) Ii (zero_get _ li)) pd_2 rfl rfl rfl rfl (by decide) (by decide) (by decide) (by decide) fun v55 T55 h55 P55 q55 => ?_
    obtain ⟨rfl, rfl⟩ := q55
    refine g_ifNo P55 d0_176 (by decide) ?_
    refine g_aload P55 d0_179 rfl rfl ?_
    refine g_aload P55 d0_181 rfl rfl ?_
    refine g_iload P55 d0_183 rfl ?_
    refine g_aaload (i := oj) (v := (.ref rj)) P55 d0_185 AK rfl Ij gj ?_
    refine g_virtual P55 a [(.ref rj)] (rest := []) (W := 0) d0_186 (hw _ (List.mem_of_getElem? (i := 37) rfl)) (hw _ (List.mem_of_getElem? (i := 38) rfl)) (hw _ (List.mem_of_getElem? (i := 40) rfl)) (hw _ (List.mem_of_getElem? (i := 39) rfl)) (hw _ (List.mem_of_getElem? (i := 16) rfl)) (hw _ (List.mem_of_getElem? (i := 41) rfl)) (by decide) H.1 (rm_count l Z a0 hw _ n0 a a b c kb kc _ _ rj oj j 0 H (Ej.ext X) (Fj.ext X) Ij (zero_get _ lj)) pd_2 rfl rfl rfl rfl (by decide) (by decide) (by decide) (by decide) fun v56 T56 h56 P56 q56 => ?_
    obtain ⟨rfl, rfl⟩ := q56
    refine g_ifNo P56 d0_189 (by decide) ?_
    refine g_aload P56 d0_192 rfl rfl ?_
    refine g_aload P56 d0_194 rfl rfl ?_
    refine g_iload P56 d0_196 rfl ?_
    refine g_aaload (i := omm) (v := (.ref rmm)) P56 d0_198 AK rfl Imm gmm ?_
    refine g_virtual P56 a [(.ref rmm)] (rest := []) (W := 0) d0_199 (hw _ (List.mem_of_getElem? (i := 37) rfl)) (hw _ (List.mem_of_getElem? (i := 38) rfl)) (hw _ (List.mem_of_getElem? (i := 40) rfl)) (hw _ (List.mem_of_getElem? (i := 39) rfl)) (hw _ (List.mem_of_getElem? (i := 16) rfl)) (hw _ (List.mem_of_getElem? (i := 41) rfl)) (by decide) H.1 (rm_count l Z a0 hw _ n0 a a b c kb kc _ _ rmm omm mm 0 H (Emm.ext X) (Fmm.ext X) Imm (zero_get _ lmm)) pd_2 rfl rfl rfl rfl (by decide) (by decide) (by decide) (by decide) fun v57 T57 h57 P57 q57 => ?_
    obtain ⟨rfl, rfl⟩ := q57
    refine g_ifNo P57 d0_202 (by decide) ?_
    refine g_iconst (v := (1 : Int32)) P57 d0_205 (by rfl) ?_
    refine g_goto P57 d0_206 210 (by decide) (by decide) ?_
    refine g_istore P57 d0_210 #[.val (.int p1), .val (.int p2), .val (.int p3), .val (.int p4), .val (.int p5), .val (.ref ka), .val (.int i), .val (.int j), .val (.int mm), .val (.int f9), .val (.int f10), .val (.ref a), .val (.int (1 : Int32))] rfl ?_
    refine g_iload P57 d0_212 rfl ?_
    refine g_ifYes P57 d0_214 (by decide) 219 (by decide) (by decide) ?_
    refine g_aload P57 d0_219 rfl rfl ?_
    refine g_aload P57 d0_221 rfl rfl ?_
    refine g_iload P57 d0_223 rfl ?_
    refine g_aaload (i := omm) (v := (.ref rmm)) P57 d0_225 AK rfl Imm gmm ?_
    refine g_iload P57 d0_226 rfl ?_
    refine g_virtual P57 a [(.ref rmm), (.int p5)] (rest := []) (W := 0) d0_228 (hw _ (List.mem_of_getElem? (i := 51) rfl)) (hw _ (List.mem_of_getElem? (i := 52) rfl)) (hw _ (List.mem_of_getElem? (i := 54) rfl)) (hw _ (List.mem_of_getElem? (i := 53) rfl)) (hw _ (List.mem_of_getElem? (i := 16) rfl)) (hw _ (List.mem_of_getElem? (i := 55) rfl)) (by decide) H.1 (rm_add0 l Z a0 hw _ n0 a a b c kb kc _ _ rmm omm mm p5 g10 H (Emm.ext X) (Fmm.ext X) Imm (zero_get _ lmm)) pd_3 rfl rfl rfl rfl (by decide) (by decide) (by decide) (by decide) fun v58 T58 h58 P58 q58 => ?_
    obtain ⟨rfl, ps', d, k, lst, H, B, hp, AD, l4, hx⟩ := q58
    have X := ext_below X B (by omega)
    have AK := AK.blw B lk
    refine g_aload P58 d0_231 rfl rfl ?_
    refine g_aload P58 d0_233 rfl rfl ?_
    refine g_iload P58 d0_235 rfl ?_
    refine g_aaload (i := omm) (v := (.ref rmm)) P58 d0_237 AK rfl Imm gmm ?_
    refine g_virtual P58 a [(.ref rmm)] (rest := []) (W := 0) d0_238 (hw _ (List.mem_of_getElem? (i := 37) rfl)) (hw _ (List.mem_of_getElem? (i := 38) rfl)) (hw _ (List.mem_of_getElem? (i := 40) rfl)) (hw _ (List.mem_of_getElem? (i := 39) rfl)) (hw _ (List.mem_of_getElem? (i := 16) rfl)) (hw _ (List.mem_of_getElem? (i := 41) rfl)) (by decide) H.1 (rm_count l Z a0 hw _ n0 a a b c kb kc _ _ rmm omm mm 1 H (Emm.ext X) (Fmm.ext X) Imm (List.getElem?_set_self lmm)) pd_2 rfl rfl rfl rfl (by decide) (by decide) (by decide) (by decide) fun v59 T59 h59 P59 q59 => ?_
    obtain ⟨rfl, rfl⟩ := q59
    refine g_iconst (v := (1 : Int32)) P59 d0_241 (by rfl) ?_
    refine g_icmpNo P59 d0_242 (by decide) ?_
    refine g_aload P59 d0_245 rfl rfl ?_
    refine g_aload P59 d0_247 rfl rfl ?_
    refine g_iload P59 d0_249 rfl ?_
    refine g_aaload (i := omm) (v := (.ref rmm)) P59 d0_251 AK rfl Imm gmm ?_
    refine g_iconst (v := (0 : Int32)) P59 d0_252 (by rfl) ?_
    refine g_virtual P59 a [(.ref rmm), (.int (0 : Int32))] (rest := []) (W := 0) d0_253 (hw _ (List.mem_of_getElem? (i := 57) rfl)) (hw _ (List.mem_of_getElem? (i := 58) rfl)) (hw _ (List.mem_of_getElem? (i := 60) rfl)) (hw _ (List.mem_of_getElem? (i := 59) rfl)) (hw _ (List.mem_of_getElem? (i := 16) rfl)) (hw _ (List.mem_of_getElem? (i := 61) rfl)) (by decide) H.1 (rm_position l Z a0 hw _ n0 a a b c kb kc _ _ rmm omm mm d k lst p5 H (Emm.ext X) (Fmm.ext X) Imm hp AD hx) pd_4 rfl rfl rfl rfl (by decide) (by decide) (by decide) (by decide) fun v60 T60 h60 P60 q60 => ?_
    obtain ⟨rfl, rfl⟩ := q60
    refine g_iload P60 d0_256 rfl ?_
    refine g_icmpNo P60 d0_258 (teq rfl).2 ?_
    refine g_iconst (v := (1 : Int32)) P60 d0_261 (by rfl) ?_
    refine g_goto P60 d0_262 266 (by decide) (by decide) ?_
    exact g_retZ P60 d0_266 (by decide) (by decide) (by decide) rfl
  refine g_iloadN P53 d0_69 rfl ?_
  refine g_iconst (v := (1 : Int32)) P53 d0_70 (by rfl) ?_
  refine g_iand (v := (p1 &&& (1 : Int32))) P53 d0_71 rfl ?_
  by_cases ha : (p1 &&& (1 : Int32)) = (0 : Int32)
  · refine g_ifYes P53 d0_72 ((if0 _ _).trans (teq ha).1) 79 (by decide) (by decide) ?_
    refine g_iconst (v := (0 : Int32)) P53 d0_79 (by rfl) ?_
    refine g_istore P53 d0_80 #[.val (.int p1), .val (.int p2), .val (.int p3), .val (.int p4), .val (.int p5), .val (.ref ka), .val (.int i), .val (.int j), .val (.int mm), .val (.int (0 : Int32)), .unset, .unset, .unset] rfl ?_
    refine g_iloadN P53 d0_82 rfl ?_
    refine g_iconst (v := (2 : Int32)) P53 d0_83 (by rfl) ?_
    refine g_iand (v := (p1 &&& (2 : Int32))) P53 d0_84 rfl ?_
    by_cases hb : (p1 &&& (2 : Int32)) = (0 : Int32)
    · refine g_ifYes P53 d0_85 ((if0 _ _).trans (teq hb).1) 92 (by decide) (by decide) ?_
      refine g_iconst (v := (0 : Int32)) P53 d0_92 (by rfl) ?_
      refine g_istore P53 d0_93 #[.val (.int p1), .val (.int p2), .val (.int p3), .val (.int p4), .val (.int p5), .val (.ref ka), .val (.int i), .val (.int j), .val (.int mm), .val (.int (0 : Int32)), .val (.int (0 : Int32)), .unset, .unset] rfl ?_
      refine g_iload P53 d0_95 rfl ?_
      refine g_ifYes P53 d0_97 (by decide) 120 (by decide) (by decide) ?_
      refine g_new P53 d0_120 (hw _ (List.mem_of_getElem? (i := 14) rfl)) (hw _ (List.mem_of_getElem? (i := 15) rfl)) (hw _ (List.mem_of_getElem? (i := 16) rfl)) (by decide) (by decide) fun T61 h61 a P61 e61 E61 A61 F61 => ?_
      have lk : ka < a := by have := ltN AK.lt; omega
      have X := ext_trans X E61
      have AK := AK.ext E61
      have g10 : n0 ≤ a := by omega
      have lkd : a_KINDS ≠ a := nN (by have := ltN A_KINDS.lt; omega)
      have F_p := F61 (Or.inr (hw _ (List.mem_of_getElem? (i := 28) rfl)) : Laid Z a0 "com/example/linkwell/linkwell/index/Hits" "com/example/linkwell/linkwell/index/Hits" "positions" "[[I") (ty := (.array (.array .int))) (by decide)
      have F_c := F61 (Or.inr (hw _ (List.mem_of_getElem? (i := 31) rfl)) : Laid Z a0 "com/example/linkwell/linkwell/index/Hits" "com/example/linkwell/linkwell/index/Hits" "counts" "[I") (ty := (.array .int)) (by decide)
      refine g_dup P61 d0_123 rfl ?_
      refine g_special P61 a [] (rest := [(.ref a)]) (W := 1) d0_124 rfl (hw _ (List.mem_of_getElem? (i := 17) rfl)) (hw _ (List.mem_of_getElem? (i := 18) rfl)) (hw _ (List.mem_of_getElem? (i := 16) rfl)) (hw _ (List.mem_of_getElem? (i := 19) rfl)) (by decide) (rm_init l Z a0 hw _ n0 a a_KINDS _ _ _ (S_KINDS.ext X) (A_KINDS.ext X) z_KINDS lkd g10 A61 F_p F_c) pd_1 rfl rfl rfl rfl (by decide) (by decide) (by decide) (by decide) fun v62 T62 h62 P62 q62 => ?_
      obtain ⟨rfl, b, c, kb, kc, H, B⟩ := q62
      have gza : h0.size ≤ a := by omega
      have X := ext_below X B (by omega)
      have AK := AK.blw B lk
      refine g_astore P62 d0_127 rfl #[.val (.int p1), .val (.int p2), .val (.int p3), .val (.int p4), .val (.int p5), .val (.ref ka), .val (.int i), .val (.int j), .val (.int mm), .val (.int (0 : Int32)), .val (.int (0 : Int32)), .val (.ref a), .unset] rfl ?_
      refine g_iload P62 d0_129 rfl ?_
      refine g_ifYes P62 d0_131 (by decide) 145 (by decide) (by decide) ?_
      refine g_iload P62 d0_145 rfl ?_
      refine g_ifYes P62 d0_147 (by decide) 161 (by decide) (by decide) ?_
      exact rest _ _ _ _ a b c kb kc _ _ (P62.up (by decide) (by decide)) H X AK g10 lk
    · refine g_ifNo P53 d0_85 ((if0 _ _).trans (feq hb).1) ?_
      refine g_iconst (v := (1 : Int32)) P53 d0_88 (by rfl) ?_
      refine g_goto P53 d0_89 93 (by decide) (by decide) ?_
      refine g_istore P53 d0_93 #[.val (.int p1), .val (.int p2), .val (.int p3), .val (.int p4), .val (.int p5), .val (.ref ka), .val (.int i), .val (.int j), .val (.int mm), .val (.int (0 : Int32)), .val (.int (1 : Int32)), .unset, .unset] rfl ?_
      refine g_iload P53 d0_95 rfl ?_
      refine g_ifYes P53 d0_97 (by decide) 120 (by decide) (by decide) ?_
      refine g_new P53 d0_120 (hw _ (List.mem_of_getElem? (i := 14) rfl)) (hw _ (List.mem_of_getElem? (i := 15) rfl)) (hw _ (List.mem_of_getElem? (i := 16) rfl)) (by decide) (by decide) fun T63 h63 a P63 e63 E63 A63 F63 => ?_
      have lk : ka < a := by have := ltN AK.lt; omega
      have X := ext_trans X E63
      have AK := AK.ext E63
      have g10 : n0 ≤ a := by omega
      have lkd : a_KINDS ≠ a := nN (by have := ltN A_KINDS.lt; omega)
      have F_p := F63 (Or.inr (hw _ (List.mem_of_getElem? (i := 28) rfl)) : Laid Z a0 "com/example/linkwell/linkwell/index/Hits" "com/example/linkwell/linkwell/index/Hits" "positions" "[[I") (ty := (.array (.array .int))) (by decide)
      have F_c := F63 (Or.inr (hw _ (List.mem_of_getElem? (i := 31) rfl)) : Laid Z a0 "com/example/linkwell/linkwell/index/Hits" "com/example/linkwell/linkwell/index/Hits" "counts" "[I") (ty := (.array .int)) (by decide)
      refine g_dup P63 d0_123 rfl ?_
      refine g_special P63 a [] (rest := [(.ref a)]) (W := 1) d0_124 rfl (hw _ (List.mem_of_getElem? (i := 17) rfl)) (hw _ (List.mem_of_getElem? (i := 18) rfl)) (hw _ (List.mem_of_getElem? (i := 16) rfl)) (hw _ (List.mem_of_getElem? (i := 19) rfl)) (by decide) (rm_init l Z a0 hw _ n0 a a_KINDS _ _ _ (S_KINDS.ext X) (A_KINDS.ext X) z_KINDS lkd g10 A63 F_p F_c) pd_1 rfl rfl rfl rfl (by decide) (by decide) (by decide) (by decide) fun v64 T64 h64 P64 q64 => ?_
      obtain ⟨rfl, b, c, kb, kc, H, B⟩ := q64
      have gza : h0.size ≤ a := by omega
      have X := ext_below X B (by omega)
      have AK := AK.blw B lk
      refine g_astore P64 d0_127 rfl #[.val (.int p1), .val (.int p2), .val (.int p3), .val (.int p4), .val (.int p5), .val (.ref ka), .val (.int i), .val (.int j), .val (.int mm), .val (.int (0 : Int32)), .val (.int (1 : Int32)), .val (.ref a), .unset] rfl ?_
      refine g_iload P64 d0_129 rfl ?_
      refine g_ifYes P64 d0_131 (by decide) 145 (by decide) (by decide) ?_
      refine g_iload P64 d0_145 rfl ?_
      refine g_ifNo P64 d0_147 (by decide) ?_
      refine g_aload P64 d0_150 rfl rfl ?_
      refine g_aload P64 d0_152 rfl rfl ?_
      refine g_iload P64 d0_154 rfl ?_
      refine g_aaload (i := oj) (v := (.ref rj)) P64 d0_156 AK rfl Ij gj ?_
      refine g_iloadN P64 d0_157 rfl ?_
      refine g_virtual P64 a [(.ref rj), (.int p4)] (rest := []) (W := 0) d0_158 (hw _ (List.mem_of_getElem? (i := 51) rfl)) (hw _ (List.mem_of_getElem? (i := 52) rfl)) (hw _ (List.mem_of_getElem? (i := 54) rfl)) (hw _ (List.mem_of_getElem? (i := 53) rfl)) (hw _ (List.mem_of_getElem? (i := 16) rfl)) (hw _ (List.mem_of_getElem? (i := 55) rfl)) (by decide) H.1 (rm_add0 l Z a0 hw _ n0 a a b c kb kc _ _ rj oj j p4 g10 H (Ej.ext X) (Fj.ext X) Ij (zero_get _ lj)) pd_3 rfl rfl rfl rfl (by decide) (by decide) (by decide) (by decide) fun v65 T65 h65 P65 q65 => ?_
      obtain ⟨rfl, ps', d, k, lst, H, B, hp, AD, l4, hx⟩ := q65
      have X := ext_below X B (by omega)
      have AK := AK.blw B lk
      exact rest _ _ _ _ a b c kb kc _ _ (P65.up (by decide) (by decide)) H X AK g10 lk
  · refine g_ifNo P53 d0_72 ((if0 _ _).trans (feq ha).1) ?_
    refine g_iconst (v := (1 : Int32)) P53 d0_75 (by rfl) ?_
    refine g_goto P53 d0_76 80 (by decide) (by decide) ?_
    refine g_istore P53 d0_80 #[.val (.int p1), .val (.int p2), .val (.int p3), .val (.int p4), .val (.int p5), .val (.ref ka), .val (.int i), .val (.int j), .val (.int mm), .val (.int (1 : Int32)), .unset, .unset, .unset] rfl ?_
    refine g_iloadN P53 d0_82 rfl ?_
    refine g_iconst (v := (2 : Int32)) P53 d0_83 (by rfl) ?_
    refine g_iand (v := (p1 &&& (2 : Int32))) P53 d0_84 rfl ?_
    by_cases hb : (p1 &&& (2 : Int32)) = (0 : Int32)
    · refine g_ifYes P53 d0_85 ((if0 _ _).trans (teq hb).1) 92 (by decide) (by decide) ?_
      refine g_iconst (v := (0 : Int32)) P53 d0_92 (by rfl) ?_
      refine g_istore P53 d0_93 #[.val (.int p1), .val (.int p2), .val (.int p3), .val (.int p4), .val (.int p5), .val (.ref ka), .val (.int i), .val (.int j), .val (.int mm), .val (.int (1 : Int32)), .val (.int (0 : Int32)), .unset, .unset] rfl ?_
      refine g_iload P53 d0_95 rfl ?_
      refine g_ifNo P53 d0_97 (by decide) ?_
      refine g_iload P53 d0_100 rfl ?_
      refine g_ifYes P53 d0_102 (by decide) 120 (by decide) (by decide) ?_
      refine g_new P53 d0_120 (hw _ (List.mem_of_getElem? (i := 14) rfl)) (hw _ (List.mem_of_getElem? (i := 15) rfl)) (hw _ (List.mem_of_getElem? (i := 16) rfl)) (by decide) (by decide) fun T66 h66 a P66 e66 E66 A66 F66 => ?_
      have lk : ka < a := by have := ltN AK.lt; omega
      have X := ext_trans X E66
      have AK := AK.ext E66
      have g10 : n0 ≤ a := by omega
      have lkd : a_KINDS ≠ a := nN (by have := ltN A_KINDS.lt; omega)
      have F_p := F66 (Or.inr (hw _ (List.mem_of_getElem? (i := 28) rfl)) : Laid Z a0 "com/example/linkwell/linkwell/index/Hits" "com/example/linkwell/linkwell/index/Hits" "positions" "[[I") (ty := (.array (.array .int))) (by decide)
      have F_c := F66 (Or.inr (hw _ (List.mem_of_getElem? (i := 31) rfl)) : Laid Z a0 "com/example/linkwell/linkwell/index/Hits" "com/example/linkwell/linkwell/index/Hits" "counts" "[I") (ty := (.array .int)) (by decide)
      refine g_dup P66 d0_123 rfl ?_
      refine g_special P66 a [] (rest := [(.ref a)]) (W := 1) d0_124 rfl (hw _ (List.mem_of_getElem? (i := 17) rfl)) (hw _ (List.mem_of_getElem? (i := 18) rfl)) (hw _ (List.mem_of_getElem? (i := 16) rfl)) (hw _ (List.mem_of_getElem? (i := 19) rfl)) (by decide) (rm_init l Z a0 hw _ n0 a a_KINDS _ _ _ (S_KINDS.ext X) (A_KINDS.ext X) z_KINDS lkd g10 A66 F_p F_c) pd_1 rfl rfl rfl rfl (by decide) (by decide) (by decide) (by decide) fun v67 T67 h67 P67 q67 => ?_
      obtain ⟨rfl, b, c, kb, kc, H, B⟩ := q67
      have gza : h0.size ≤ a := by omega
      have X := ext_below X B (by omega)
      have AK := AK.blw B lk
      refine g_astore P67 d0_127 rfl #[.val (.int p1), .val (.int p2), .val (.int p3), .val (.int p4), .val (.int p5), .val (.ref ka), .val (.int i), .val (.int j), .val (.int mm), .val (.int (1 : Int32)), .val (.int (0 : Int32)), .val (.ref a), .unset] rfl ?_
      refine g_iload P67 d0_129 rfl ?_
      refine g_ifNo P67 d0_131 (by decide) ?_
      refine g_aload P67 d0_134 rfl rfl ?_
      refine g_aload P67 d0_136 rfl rfl ?_
      refine g_iload P67 d0_138 rfl ?_
      refine g_aaload (i := oi) (v := (.ref ri)) P67 d0_140 AK rfl Ii gi ?_
      refine g_iloadN P67 d0_141 rfl ?_
      refine g_virtual P67 a [(.ref ri), (.int p3)] (rest := []) (W := 0) d0_142 (hw _ (List.mem_of_getElem? (i := 51) rfl)) (hw _ (List.mem_of_getElem? (i := 52) rfl)) (hw _ (List.mem_of_getElem? (i := 54) rfl)) (hw _ (List.mem_of_getElem? (i := 53) rfl)) (hw _ (List.mem_of_getElem? (i := 16) rfl)) (hw _ (List.mem_of_getElem? (i := 55) rfl)) (by decide) H.1 (rm_add0 l Z a0 hw _ n0 a a b c kb kc _ _ ri oi i p3 g10 H (Ei.ext X) (Fi.ext X) Ii (zero_get _ li)) pd_3 rfl rfl rfl rfl (by decide) (by decide) (by decide) (by decide) fun v68 T68 h68 P68 q68 => ?_
      obtain ⟨rfl, ps', d, k, lst, H, B, hp, AD, l4, hx⟩ := q68
      have X := ext_below X B (by omega)
      have AK := AK.blw B lk
      refine g_iload P68 d0_145 rfl ?_
      refine g_ifYes P68 d0_147 (by decide) 161 (by decide) (by decide) ?_
      exact rest _ _ _ _ a b c kb kc _ _ (P68.up (by decide) (by decide)) H X AK g10 lk
    · refine g_ifNo P53 d0_85 ((if0 _ _).trans (feq hb).1) ?_
      refine g_iconst (v := (1 : Int32)) P53 d0_88 (by rfl) ?_
      refine g_goto P53 d0_89 93 (by decide) (by decide) ?_
      refine g_istore P53 d0_93 #[.val (.int p1), .val (.int p2), .val (.int p3), .val (.int p4), .val (.int p5), .val (.ref ka), .val (.int i), .val (.int j), .val (.int mm), .val (.int (1 : Int32)), .val (.int (1 : Int32)), .unset, .unset] rfl ?_
      refine g_iload P53 d0_95 rfl ?_
      refine g_ifNo P53 d0_97 (by decide) ?_
      refine g_iload P53 d0_100 rfl ?_
      refine g_ifNo P53 d0_102 (by decide) ?_
      refine g_iload P53 d0_105 rfl ?_
      refine g_iload P53 d0_107 rfl ?_
      by_cases hij : i = j
      · refine g_icmpNo P53 d0_109 (teq hij).2 ?_
        refine g_iloadN P53 d0_112 rfl ?_
        refine g_iloadN P53 d0_113 rfl ?_
        by_cases hpp : p3 < p4
        · refine g_icmpYes P53 d0_114 (tlt hpp).2.2.1 120 (by decide) (by decide) ?_
          refine g_new P53 d0_120 (hw _ (List.mem_of_getElem? (i := 14) rfl)) (hw _ (List.mem_of_getElem? (i := 15) rfl)) (hw _ (List.mem_of_getElem? (i := 16) rfl)) (by decide) (by decide) fun T69 h69 a P69 e69 E69 A69 F69 => ?_
          have lk : ka < a := by have := ltN AK.lt; omega
          have X := ext_trans X E69
          have AK := AK.ext E69
          have g10 : n0 ≤ a := by omega
          have lkd : a_KINDS ≠ a := nN (by have := ltN A_KINDS.lt; omega)
          have F_p := F69 (Or.inr (hw _ (List.mem_of_getElem? (i := 28) rfl)) : Laid Z a0 "com/example/linkwell/linkwell/index/Hits" "com/example/linkwell/linkwell/index/Hits" "positions" "[[I") (ty := (.array (.array .int))) (by decide)
          have F_c := F69 (Or.inr (hw _ (List.mem_of_getElem? (i := 31) rfl)) : Laid Z a0 "com/example/linkwell/linkwell/index/Hits" "com/example/linkwell/linkwell/index/Hits" "counts" "[I") (ty := (.array .int)) (by decide)
          refine g_dup P69 d0_123 rfl ?_
          refine g_special P69 a [] (rest := [(.ref a)]) (W := 1) d0_124 rfl (hw _ (List.mem_of_getElem? (i := 17) rfl)) (hw _ (List.mem_of_getElem? (i := 18) rfl)) (hw _ (List.mem_of_getElem? (i := 16) rfl)) (hw _ (List.mem_of_getElem? (i := 19) rfl)) (by decide) (rm_init l Z a0 hw _ n0 a a_KINDS _ _ _ (S_KINDS.ext X) (A_KINDS.ext X) z_KINDS lkd g10 A69 F_p F_c) pd_1 rfl rfl rfl rfl (by decide) (by decide) (by decide) (by decide) fun v70 T70 h70 P70 q70 => ?_
          obtain ⟨rfl, b, c, kb, kc, H, B⟩ := q70
          have gza : h0.size ≤ a := by omega
          have X := ext_below X B (by omega)
          have AK := AK.blw B lk
          refine g_astore P70 d0_127 rfl #[.val (.int p1), .val (.int p2), .val (.int p3), .val (.int p4), .val (.int p5), .val (.ref ka), .val (.int i), .val (.int j), .val (.int mm), .val (.int (1 : Int32)), .val (.int (1 : Int32)), .val (.ref a), .unset] rfl ?_
          refine g_iload P70 d0_129 rfl ?_
          refine g_ifNo P70 d0_131 (by decide) ?_
          refine g_aload P70 d0_134 rfl rfl ?_
          refine g_aload P70 d0_136 rfl rfl ?_
          refine g_iload P70 d0_138 rfl ?_
          refine g_aaload (i := oi) (v := (.ref ri)) P70 d0_140 AK rfl Ii gi ?_
          refine g_iloadN P70 d0_141 rfl ?_
          refine g_virtual P70 a [(.ref ri), (.int p3)] (rest := []) (W := 0) d0_142 (hw _ (List.mem_of_getElem? (i := 51) rfl)) (hw _ (List.mem_of_getElem? (i := 52) rfl)) (hw _ (List.mem_of_getElem? (i := 54) rfl)) (hw _ (List.mem_of_getElem? (i := 53) rfl)) (hw _ (List.mem_of_getElem? (i := 16) rfl)) (hw _ (List.mem_of_getElem? (i := 55) rfl)) (by decide) H.1 (rm_add0 l Z a0 hw _ n0 a a b c kb kc _ _ ri oi i p3 g10 H (Ei.ext X) (Fi.ext X) Ii (zero_get _ li)) pd_3 rfl rfl rfl rfl (by decide) (by decide) (by decide) (by decide) fun v71 T71 h71 P71 q71 => ?_
          obtain ⟨rfl, ps', d, k, lst, H, B, hp, AD, l4, hx⟩ := q71
          have X := ext_below X B (by omega)
          have AK := AK.blw B lk
          refine g_iload P71 d0_145 rfl ?_
          refine g_ifNo P71 d0_147 (by decide) ?_
          refine g_aload P71 d0_150 rfl rfl ?_
          refine g_aload P71 d0_152 rfl rfl ?_
          refine g_iload P71 d0_154 rfl ?_
          subst hij
          obtain rfl : oj = oi := Ij.2.symm.trans Ii.2
          obtain rfl : rj = ri := by cases gi.symm.trans gj; rfl
          refine g_aaload (i := oj) (v := (.ref rj)) P71 d0_156 AK rfl Ij gj ?_
          refine g_iloadN P71 d0_157 rfl ?_
          refine g_virtual P71 a [(.ref rj), (.int p4)] (rest := []) (W := 0) d0_158 (hw _ (List.mem_of_getElem? (i := 51) rfl)) (hw _ (List.mem_of_getElem? (i := 52) rfl)) (hw _ (List.mem_of_getElem? (i := 54) rfl)) (hw _ (List.mem_of_getElem? (i := 53) rfl)) (hw _ (List.mem_of_getElem? (i := 16) rfl)) (hw _ (List.mem_of_getElem? (i := 55) rfl)) (by decide) H.1 (rm_add1 l Z a0 hw _ n0 a a b c kb kc _ _ rj oj i p4 d k lst p3 g10 H (Ej.ext X) (Fj.ext X) Ij (List.getElem?_set_self lj) hp AD l4 hx hpp) pd_3 rfl rfl rfl rfl (by decide) (by decide) (by decide) (by decide) fun v72 T72 h72 P72 q72 => ?_
          obtain ⟨rfl, ps'', d', k', lst', H, B, hp', AD', l4', hx'⟩ := q72
          have X := ext_below X B (by omega)
          have AK := AK.blw B lk
          exact rest _ _ _ _ a b c kb kc _ _ (P72.up (by decide) (by decide)) H X AK g10 lk
        · refine g_icmpNo P53 d0_114 (flt hpp).2.2.1 ?_
          refine g_iconst (v := (0 : Int32)) P53 d0_117 (by rfl) ?_
          refine g_istore P53 d0_118 #[.val (.int p1), .val (.int p2), .val (.int p3), .val (.int p4), .val (.int p5), .val (.ref ka), .val (.int i), .val (.int j), .val (.int mm), .val (.int (1 : Int32)), .val (.int (0 : Int32)), .unset, .unset] rfl ?_
          refine g_new P53 d0_120 (hw _ (List.mem_of_getElem? (i := 14) rfl)) (hw _ (List.mem_of_getElem? (i := 15) rfl)) (hw _ (List.mem_of_getElem? (i := 16) rfl)) (by decide) (by decide) fun T73 h73 a P73 e73 E73 A73 F73 => ?_
          have lk : ka < a := by have := ltN AK.lt; omega
          have X := ext_trans X E73
          have AK := AK.ext E73
          have g10 : n0 ≤ a := by omega
          have lkd : a_KINDS ≠ a := nN (by have := ltN A_KINDS.lt; omega)
          have F_p := F73 (Or.inr (hw _ (List.mem_of_getElem? (i := 28) rfl)) : Laid Z a0 "com/example/linkwell/linkwell/index/Hits" "com/example/linkwell/linkwell/index/Hits" "positions" "[[I") (ty := (.array (.array .int))) (by decide)
          have F_c := F73 (Or.inr (hw _ (List.mem_of_getElem? (i := 31) rfl)) : Laid Z a0 "com/example/linkwell/linkwell/index/Hits" "com/example/linkwell/linkwell/index/Hits" "counts" "[I") (ty := (.array .int)) (by decide)
          refine g_dup P73 d0_123 rfl ?_
          refine g_special P73 a [] (rest := [(.ref a)]) (W := 1) d0_124 rfl (hw _ (List.mem_of_getElem? (i := 17) rfl)) (hw _ (List.mem_of_getElem? (i := 18) rfl)) (hw _ (List.mem_of_getElem? (i := 16) rfl)) (hw _ (List.mem_of_getElem? (i := 19) rfl)) (by decide) (rm_init l Z a0 hw _ n0 a a_KINDS _ _ _ (S_KINDS.ext X) (A_KINDS.ext X) z_KINDS lkd g10 A73 F_p F_c) pd_1 rfl rfl rfl rfl (by decide) (by decide) (by decide) (by decide) fun v74 T74 h74 P74 q74 => ?_
          obtain ⟨rfl, b, c, kb, kc, H, B⟩ := q74
          have gza : h0.size ≤ a := by omega
          have X := ext_below X B (by omega)
          have AK := AK.blw B lk
          refine g_astore P74 d0_127 rfl #[.val (.int p1), .val (.int p2), .val (.int p3), .val (.int p4), .val (.int p5), .val (.ref ka), .val (.int i), .val (.int j), .val (.int mm), .val (.int (1 : Int32)), .val (.int (0 : Int32)), .val (.ref a), .unset] rfl ?_
          refine g_iload P74 d0_129 rfl ?_
          refine g_ifNo P74 d0_131 (by decide) ?_
          refine g_aload P74 d0_134 rfl rfl ?_
          refine g_aload P74 d0_136 rfl rfl ?_
          refine g_iload P74 d0_138 rfl ?_
          refine g_aaload (i := oi) (v := (.ref ri)) P74 d0_140 AK rfl Ii gi ?_
          refine g_iloadN P74 d0_141 rfl ?_
          refine g_virtual P74 a [(.ref ri), (.int p3)] (rest := []) (W := 0) d0_142 (hw _ (List.mem_of_getElem? (i := 51) rfl)) (hw _ (List.mem_of_getElem? (i := 52) rfl)) (hw _ (List.mem_of_getElem? (i := 54) rfl)) (hw _ (List.mem_of_getElem? (i := 53) rfl)) (hw _ (List.mem_of_getElem? (i := 16) rfl)) (hw _ (List.mem_of_getElem? (i := 55) rfl)) (by decide) H.1 (rm_add0 l Z a0 hw _ n0 a a b c kb kc _ _ ri oi i p3 g10 H (Ei.ext X) (Fi.ext X) Ii (zero_get _ li)) pd_3 rfl rfl rfl rfl (by decide) (by decide) (by decide) (by decide) fun v75 T75 h75 P75 q75 => ?_
          obtain ⟨rfl, ps', d, k, lst, H, B, hp, AD, l4, hx⟩ := q75
          have X := ext_below X B (by omega)
          have AK := AK.blw B lk
          refine g_iload P75 d0_145 rfl ?_
          refine g_ifYes P75 d0_147 (by decide) 161 (by decide) (by decide) ?_
          exact rest _ _ _ _ a b c kb kc _ _ (P75.up (by decide) (by decide)) H X AK g10 lk
      · refine g_icmpYes P53 d0_109 (feq hij).2 120 (by decide) (by decide) ?_
        refine g_new P53 d0_120 (hw _ (List.mem_of_getElem? (i := 14) rfl)) (hw _ (List.mem_of_getElem? (i := 15) rfl)) (hw _ (List.mem_of_getElem? (i := 16) rfl)) (by decide) (by decide) fun T76 h76 a P76 e76 E76 A76 F76 => ?_
        have lk : ka < a := by have := ltN AK.lt; omega
        have X := ext_trans X E76
        have AK := AK.ext E76
        have g10 : n0 ≤ a := by omega
        have lkd : a_KINDS ≠ a := nN (by have := ltN A_KINDS.lt; omega)
        have F_p := F76 (Or.inr (hw _ (List.mem_of_getElem? (i := 28) rfl)) : Laid Z a0 "com/example/linkwell/linkwell/index/Hits" "com/example/linkwell/linkwell/index/Hits" "positions" "[[I") (ty := (.array (.array .int))) (by decide)
        have F_c := F76 (Or.inr (hw _ (List.mem_of_getElem? (i := 31) rfl)) : Laid Z a0 "com/example/linkwell/linkwell/index/Hits" "com/example/linkwell/linkwell/index/Hits" "counts" "[I") (ty := (.array .int)) (by decide)
        refine g_dup P76 d0_123 rfl ?_
        refine g_special P76 a [] (rest := [(.ref a)]) (W := 1) d0_124 rfl (hw _ (List.mem_of_getElem? (i := 17) rfl)) (hw _ (List.mem_of_getElem? (i := 18) rfl)) (hw _ (List.mem_of_getElem? (i := 16) rfl)) (hw _ (List.mem_of_getElem? (i := 19) rfl)) (by decide) (rm_init l Z a0 hw _ n0 a a_KINDS _ _ _ (S_KINDS.ext X) (A_KINDS.ext X) z_KINDS lkd g10 A76 F_p F_c) pd_1 rfl rfl rfl rfl (by decide) (by decide) (by decide) (by decide) fun v77 T77 h77 P77 q77 => ?_
        obtain ⟨rfl, b, c, kb, kc, H, B⟩ := q77
        have gza : h0.size ≤ a := by omega
        have X := ext_below X B (by omega)
        have AK := AK.blw B lk
        refine g_astore P77 d0_127 rfl #[.val (.int p1), .val (.int p2), .val (.int p3), .val (.int p4), .val (.int p5), .val (.ref ka), .val (.int i), .val (.int j), .val (.int mm), .val (.int (1 : Int32)), .val (.int (1 : Int32)), .val (.ref a), .unset] rfl ?_
        refine g_iload P77 d0_129 rfl ?_
        refine g_ifNo P77 d0_131 (by decide) ?_
        refine g_aload P77 d0_134 rfl rfl ?_
        refine g_aload P77 d0_136 rfl rfl ?_
        refine g_iload P77 d0_138 rfl ?_
        refine g_aaload (i := oi) (v := (.ref ri)) P77 d0_140 AK rfl Ii gi ?_
        refine g_iloadN P77 d0_141 rfl ?_
        refine g_virtual P77 a [(.ref ri), (.int p3)] (rest := []) (W := 0) d0_142 (hw _ (List.mem_of_getElem? (i := 51) rfl)) (hw _ (List.mem_of_getElem? (i := 52) rfl)) (hw _ (List.mem_of_getElem? (i := 54) rfl)) (hw _ (List.mem_of_getElem? (i := 53) rfl)) (hw _ (List.mem_of_getElem? (i := 16) rfl)) (hw _ (List.mem_of_getElem? (i := 55) rfl)) (by decide) H.1 (rm_add0 l Z a0 hw _ n0 a a b c kb kc _ _ ri oi i p3 g10 H (Ei.ext X) (Fi.ext X) Ii (zero_get _ li)) pd_3 rfl rfl rfl rfl (by decide) (by decide) (by decide) (by decide) fun v78 T78 h78 P78 q78 => ?_
        obtain ⟨rfl, ps', d, k, lst, H, B, hp, AD, l4, hx⟩ := q78
        have X := ext_below X B (by omega)
        have AK := AK.blw B lk
        refine g_iload P78 d0_145 rfl ?_
        refine g_ifNo P78 d0_147 (by decide) ?_
        refine g_aload P78 d0_150 rfl rfl ?_
        refine g_aload P78 d0_152 rfl rfl ?_
        refine g_iload P78 d0_154 rfl ?_
        have no : oi ≠ oj := fun q => hij (Ix.inj (q ▸ Ii) Ij)
        refine g_aaload (i := oj) (v := (.ref rj)) P78 d0_156 AK rfl Ij gj ?_
        refine g_iloadN P78 d0_157 rfl ?_
        refine g_virtual P78 a [(.ref rj), (.int p4)] (rest := []) (W := 0) d0_158 (hw _ (List.mem_of_getElem? (i := 51) rfl)) (hw _ (List.mem_of_getElem? (i := 52) rfl)) (hw _ (List.mem_of_getElem? (i := 54) rfl)) (hw _ (List.mem_of_getElem? (i := 53) rfl)) (hw _ (List.mem_of_getElem? (i := 16) rfl)) (hw _ (List.mem_of_getElem? (i := 55) rfl)) (by decide) H.1 (rm_add0 l Z a0 hw _ n0 a a b c kb kc _ _ rj oj j p4 g10 H (Ej.ext X) (Fj.ext X) Ij ((List.getElem?_set_ne no).trans (zero_get _ lj))) pd_3 rfl rfl rfl rfl (by decide) (by decide) (by decide) (by decide) fun v79 T79 h79 P79 q79 => ?_
        obtain ⟨rfl, ps'', d', k', lst', H, B, hp', AD', l4', hx'⟩ := q79
        have X := ext_below X B (by omega)
        have AK := AK.blw B lk
        exact rest _ _ _ _ a b c kb kc _ _ (P79.up (by decide) (by decide)) H X AK g10 lk
set_option maxRecDepth 65536 in
set_option maxHeartbeats 40000000 in
theorem comes_1 {Post : Tables → Env → Array Value → State → Outcome → State → Prop} (hpost : ∀ tb e args s v u, (limb_1_1.after args s (.returned v) u = true ∧ limb_1_2.after args s (.returned v) u = true ∧ True) → FrameEnd s (.returned v) u (Jvm.fieldLocs frame_1_writes args s ++ Jvm.arrayLocs frame_1_arrays args s ++ Jvm.staticLocs frame_1_statics s) 24 128 → Post tb e args s (.returned v) u) :
    ArmFor flags0 classFile x code maxLocals ret World_1 tables_1 room_1 Calls_1 rest_1 Pre_1 Post := by
  intro l hfl _ _ p e ha hc hk s m args below hf hA hF happ hP
  obtain ⟨hcalls, hrest, hpre⟩ := hP
  obtain ⟨-, -, -, hnamed, -, -, -, hat⟩ := (Spec.applies_iff hf).mp happ
  obtain ⟨hg, hn⟩ := and_e (Cond.before_iff.mp (show (Jvm.Cond.and given_1 narrow_1).before args s = true from hpre))
  obtain ⟨g0, g1⟩ := and_e hg
  obtain ⟨u0, g2⟩ := and_e g1
  obtain ⟨u1, g3⟩ := and_e g2
  obtain ⟨u2, g4⟩ := and_e g3
  obtain ⟨u3, g5⟩ := and_e g4
  obtain ⟨w0, w1, w2, w3, w4, rfl⟩ : ∃ w0 w1 w2 w3 w4 : Value, args = #[w0, w1, w2, w3, w4] := by
    have hs : args.size = 5 := by simpa [Cond.value, given_1] using g0
    obtain ⟨L⟩ := args
    match L, hs with
    | [w0, w1, w2, w3, w4], _ => exact ⟨w0, w1, w2, w3, w4, rfl⟩
  have hw := fun d (hd : d ∈ tables_1) => atoms_spec (ws := Jvm.Cond.code x code maxLocals ret :: tables_1) hat d (List.mem_cons_of_mem _ hd)
  have hfit : Fit s := fun {y c} hc i hi => by
    obtain ⟨ha, rfl⟩ := Array.getElem?_eq_some_iff.mp hc
    have q := List.all_eq_true.mp ((Array.all_eq_true_iff_forall_mem.mp hF) _ (Array.getElem_mem ha)) i (List.mem_range.mpr hi)
    simpa [Array.getElem?_eq_getElem hi] using q
  obtain ⟨i0, e0⟩ := is_v u0
  obtain rfl : w0 = (.int i0) := Option.some.inj e0
  obtain ⟨i1, e1⟩ := is_v u1
  obtain rfl : w1 = (.int i1) := Option.some.inj e1
  obtain ⟨i2, e2⟩ := is_v u2
  obtain rfl : w2 = (.int i2) := Option.some.inj e2
  obtain ⟨i3, e3⟩ := is_v u3
  obtain rfl : w3 = (.int i3) := Option.some.inj e3
  obtain ⟨i4, e4⟩ := is_v g5
  obtain rfl : w4 = (.int i4) := Option.some.inj e4
  obtain ⟨k0, r0⟩ := and_e hn
  obtain ⟨k1, r1⟩ := and_e r0
  obtain ⟨k2, r2⟩ := and_e r1
  obtain ⟨k3, r3⟩ := and_e r2
  obtain ⟨k4, r4⟩ := and_e r3
  obtain ⟨k5, r5⟩ := and_e r4
  obtain ⟨k6, r6⟩ := and_e r5
  obtain ⟨k7, r7⟩ := and_e r6
  obtain ⟨k8, r8⟩ := and_e r7
  obtain ⟨k9, r9⟩ := and_e r8
  obtain ⟨k10, k11⟩ := and_e r9
  obtain ⟨a_TITLE, ev_TITLE⟩ := exa_v k0
  have S_TITLE : Sta s s.heap "com/example/linkwell/linkwell/index/HitKind" "TITLE" "Lcom/example/linkwell/linkwell/index/HitKind;" (.ref a_TITLE) := Sta.start ev_TITLE (Or.inr ⟨(hw _ (List.mem_of_getElem? (i := 3) rfl)), (hw _ (List.mem_of_getElem? (i := 4) rfl))⟩)
  have E_TITLE : Exa s s.heap a_TITLE "com/example/linkwell/linkwell/index/HitKind" := Exa.start ev_TITLE k0
  obtain ⟨a_HEADING, ev_HEADING⟩ := exa_v k1
  have S_HEADING : Sta s s.heap "com/example/linkwell/linkwell/index/HitKind" "HEADING" "Lcom/example/linkwell/linkwell/index/HitKind;" (.ref a_HEADING) := Sta.start ev_HEADING (Or.inr ⟨(hw _ (List.mem_of_getElem? (i := 3) rfl)), (hw _ (List.mem_of_getElem? (i := 7) rfl))⟩)
  have E_HEADING : Exa s s.heap a_HEADING "com/example/linkwell/linkwell/index/HitKind" := Exa.start ev_HEADING k1
  obtain ⟨a_URL, ev_URL⟩ := exa_v k2
  have S_URL : Sta s s.heap "com/example/linkwell/linkwell/index/HitKind" "URL" "Lcom/example/linkwell/linkwell/index/HitKind;" (.ref a_URL) := Sta.start ev_URL (Or.inr ⟨(hw _ (List.mem_of_getElem? (i := 3) rfl)), (hw _ (List.mem_of_getElem? (i := 9) rfl))⟩)
  have E_URL : Exa s s.heap a_URL "com/example/linkwell/linkwell/index/HitKind" := Exa.start ev_URL k2
  obtain ⟨a_ANCHOR, ev_ANCHOR⟩ := exa_v k3
  have S_ANCHOR : Sta s s.heap "com/example/linkwell/linkwell/index/HitKind" "ANCHOR" "Lcom/example/linkwell/linkwell/index/HitKind;" (.ref a_ANCHOR) := Sta.start ev_ANCHOR (Or.inr ⟨(hw _ (List.mem_of_getElem? (i := 3) rfl)), (hw _ (List.mem_of_getElem? (i := 11) rfl))⟩)
  have E_ANCHOR : Exa s s.heap a_ANCHOR "com/example/linkwell/linkwell/index/HitKind" := Exa.start ev_ANCHOR k3
  obtain ⟨a_PLAIN, ev_PLAIN⟩ := exa_v k4
  have S_PLAIN : Sta s s.heap "com/example/linkwell/linkwell/index/HitKind" "PLAIN" "Lcom/example/linkwell/linkwell/index/HitKind;" (.ref a_PLAIN) := Sta.start ev_PLAIN (Or.inr ⟨(hw _ (List.mem_of_getElem? (i := 3) rfl)), (hw _ (List.mem_of_getElem? (i := 13) rfl))⟩)
  have E_PLAIN : Exa s s.heap a_PLAIN "com/example/linkwell/linkwell/index/HitKind" := Exa.start ev_PLAIN k4
  obtain ⟨a_KINDS, ev_KINDS⟩ := arr_v k5
  have S_KINDS : Sta s s.heap "com/example/linkwell/linkwell/index/Hits" "KINDS" "[Lcom/example/linkwell/linkwell/index/HitKind;" (.ref a_KINDS) := Sta.start ev_KINDS (Or.inr ⟨(hw _ (List.mem_of_getElem? (i := 16) rfl)), (hw _ (List.mem_of_getElem? (i := 24) rfl))⟩)
  obtain ⟨c_KINDS, R_KINDS⟩ := Arr.start ev_KINDS k5
  have F_ANCHOR : Fld s s.heap a_ANCHOR "java/lang/Enum" "ordinal" "I" (.int (3 : Int32)) := Fld.start ((fld_at ev_ANCHOR).symm.trans (eqI k7))
  have F_TITLE : Fld s s.heap a_TITLE "java/lang/Enum" "ordinal" "I" (.int (0 : Int32)) := Fld.start ((fld_at ev_TITLE).symm.trans (eqI k8))
  have F_PLAIN : Fld s s.heap a_PLAIN "java/lang/Enum" "ordinal" "I" (.int (4 : Int32)) := Fld.start ((fld_at ev_PLAIN).symm.trans (eqI k9))
  have F_HEADING : Fld s s.heap a_HEADING "java/lang/Enum" "ordinal" "I" (.int (1 : Int32)) := Fld.start ((fld_at ev_HEADING).symm.trans (eqI k10))
  have F_URL : Fld s s.heap a_URL "java/lang/Enum" "ordinal" "I" (.int (2 : Int32)) := Fld.start ((fld_at ev_URL).symm.trans (eqI k11))
  obtain ⟨A_KINDS, z_KINDS⟩ := al_start ev_KINDS R_KINDS (eqI k6)
  obtain ⟨n, o, h1, h2, h3, _, L, rfl, ⟨N, rfl⟩, hq⟩ := (rm_law l s _ hw s.heap s.heap.size a_TITLE a_HEADING a_URL a_ANCHOR a_PLAIN a_KINDS _ _ i0 i1 i2 i3 i4 (Nat.le_refl _) S_TITLE S_HEADING S_URL S_ANCHOR S_PLAIN E_TITLE E_HEADING E_URL E_ANCHOR E_PLAIN F_TITLE F_HEADING F_URL F_ANCHOR F_PLAIN S_KINDS A_KINDS z_KINDS) tables_1 p e ha hc hk s m _ below hf ((Spec.applies_iff_loose hf).mp happ).1 ⟨rfl, State.Warmed39.refl s, rfl⟩ trivial
  refine ⟨n, _, h1, h2, h3, hpost _ _ _ _ _ _ ⟨Cond.after_iff.mpr rfl, Cond.after_iff.mpr (eq_i res_at (Term.int_eval (1)) rfl), trivial⟩ ⟨hq.1, hq.2.1, (hq.2.2.sift fun y hy => Or.inr (N y hy)).mono (by decide) (by decide)⟩⟩
theorem main_1_1 : Claimed_1_1 := comes_1 fun _ _ _ _ _ _ h hF => ⟨h.1, hF⟩
theorem main_1_2 : Claimed_1_2 := comes_1 fun _ _ _ _ _ _ h hF => ⟨h.2.1, hF⟩
end Jvm.Pilot.@@N@@
namespace Jvm.Pilot.@@N@@
open Jvm Jvm.ClassFile Sem Op Lib Jvm.Free Jvm.Stand Jvm.Pilot.@@N@@.Jvm.D
/-! MADE BY PROGRAM (witnessworld.py) out of the Statement's table words and the real class files: 14 classes; the members and pool entries that the words name. The judged class is class 1, her method 1. -/
namespace start1
open Jvm.ClassFile
def u (s : String) : CpInfo := .utf8 (stringToUtf16 s)
/-- a pool by its gaps: so many unusable entries, then the entry; so many at the end -/
def gap : Nat → List CpInfo → List CpInfo
  | 0, r => r
  | n + 1, r => .unusable :: gap n r
def poolList (es : List (Nat × CpInfo)) (last : Nat) : List CpInfo := es.foldr (fun e r => gap e.1 (e.2 :: r)) (gap last [])
def pool (es : List (Nat × CpInfo)) (last : Nat) : Array CpInfo := ⟨poolList es last⟩
def fileOf (pool : Array CpInfo) (this : Nat) (attrs : Array Attribute := #[]) (ms : Array MethodInfo := #[]) (fl : Nat := 33) (sup : Nat := 0) (ifs : Array Nat := #[]) (fds : Array FieldInfo := #[]) : ClassFile where
  minorVersion := 0
  majorVersion := 65
  constantPool := pool
  accessFlags := fl
  thisClass := this
  superClass := sup
  interfaces := ifs
  fields := fds
  methods := ms
  attributes := attrs
def plain (name : String) (sup : Option ClassId) : Class where
  name := name
  kind := .ordinary
  loader := none
  accessFlags := 33
  super := sup
  interfaces := #[]
  cf := none
  fields := #[]
  methods := #[]
  instanceTypes := #[]
  staticTypes := #[]
  resolved := #[]
  callSites := []
  init := .initialized
  statics := none
  mirror := none

def pool0 : Array CpInfo := pool [(5, u "<init>"), (0, u "()V"), (1, .class_ 10), (1, u "java/lang/Object")] 113

def k0c0 : Code := { maxStack := 0, maxLocals := 1, code := object_method_1_code, exceptionTable := #[], attributes := #[] }
def k0m0 : Method := { name := "<init>", desc := "()V", sig := { parameters := [], returnType := none }, accessFlags := 1, code := some k0c0 }
/-- java/lang/Object -/
def k0 : Class := { plain "java/lang/Object" none with
  accessFlags := 33
  interfaces := #[]
  cf := some (fileOf pool0 8 #[] #[{ accessFlags := 1, nameIndex := 5, descriptorIndex := 6, attributes := #[] }] 33 0 #[] #[])
  fields := #[]
  methods := #[k0m0]
  instanceTypes := #[]
  staticTypes := #[]
  resolved := Array.replicate 124 none
  statics := none }

def pool1 : Array CpInfo := pool [(2, .class_ 4), (0, .nameAndType 5 6), (0, u "java/lang/Object"), (0, u "<init>"), (0, u "()V"), (0, .class_ 8), (0, u "com/example/linkwell/linkwell/index/HitKind"), (0, .fieldref 7 10), (0, .nameAndType 11 12), (0, u "TITLE"), (0, u "Lcom/example/linkwell/linkwell/index/HitKind;"), (0, .fieldref 7 14), (0, .nameAndType 15 12), (0, u "HEADING"), (0, .fieldref 7 17), (0, .nameAndType 18 12), (0, u "URL"), (0, .fieldref 7 20), (0, .nameAndType 21 12), (0, u "ANCHOR"), (0, .fieldref 7 23), (0, .nameAndType 24 12), (0, u "PLAIN"), (0, .class_ 26), (0, u "com/example/linkwell/linkwell/index/Hits"), (0, .methodref 25 3), (0, .methodref 25 29), (0, .nameAndType 30 31), (0, u "add"), (0, u "(Lcom/example/linkwell/linkwell/index/HitKind;I)V"), (0, .methodref 25 33), (0, .nameAndType 34 6), (0, u "clear"), (0, .methodref 25 36), (0, .nameAndType 37 38), (0, u "count"), (0, u "(Lcom/example/linkwell/linkwell/index/HitKind;)I"), (0, .methodref 25 40), (0, .nameAndType 41 42), (0, u "position"), (0, u "(Lcom/example/linkwell/linkwell/index/HitKind;I)I"), (0, .class_ 44), (0, u "com/example/linkwell/linkwell/index/HitsClearPinLaw"), (2, u "law"), (0, u "(IIIII)Z")] 5

def k1m0 : Method := { name := "<init>", desc := "()V", sig := { parameters := [], returnType := none }, accessFlags := 1, code := none }
def k1c1 : Code := { maxStack := 4, maxLocals := 13, code := code, exceptionTable := #[], attributes := #[] }
def k1m1 : Method := { name := "law", desc := "(IIIII)Z", sig := { parameters := [.int, .int, .int, .int, .int], returnType := some .boolean }, accessFlags := 9, code := some k1c1 }
/-- com/example/linkwell/linkwell/index/HitsClearPinLaw -/
def k1 : Class := { plain "com/example/linkwell/linkwell/index/HitsClearPinLaw" (some 0) with
  accessFlags := 49
  interfaces := #[]
  cf := some (fileOf pool1 43 #[] #[{ accessFlags := 1, nameIndex := 5, descriptorIndex := 6, attributes := #[] }, { accessFlags := 9, nameIndex := 47, descriptorIndex := 48, attributes := #[] }] 49 2 #[] #[])
  fields := #[]
  methods := #[k1m0, k1m1]
  instanceTypes := #[]
  staticTypes := #[]
  resolved := Array.replicate 54 none
  statics := none }

def pool2 : Array CpInfo := pool [(1, .class_ 2), (0, u "java/lang/constant/Constable"), (0, .class_ 4), (0, u "java/lang/Object")] 6

/-- java/lang/constant/Constable -/
def k2 : Class := { plain "java/lang/constant/Constable" (some 0) with
  accessFlags := 1537
  interfaces := #[]
  cf := some (fileOf pool2 1 #[] #[] 1537 3 #[] #[])
  fields := #[]
  methods := #[]
  instanceTypes := #[]
  staticTypes := #[]
  resolved := Array.replicate 11 none
  statics := none }

def pool3 : Array CpInfo := pool [(1, .class_ 2), (0, u "java/lang/Comparable"), (0, .class_ 4), (0, u "java/lang/Object")] 7

/-- java/lang/Comparable -/
def k3 : Class := { plain "java/lang/Comparable" (some 0) with
  accessFlags := 1537
  interfaces := #[]
  cf := some (fileOf pool3 1 #[] #[] 1537 3 #[] #[])
  fields := #[]
  methods := #[]
  instanceTypes := #[]
  staticTypes := #[]
  resolved := Array.replicate 12 none
  statics := none }

def pool4 : Array CpInfo := pool [(1, .class_ 2), (0, u "java/io/Serializable"), (0, .class_ 4), (0, u "java/lang/Object")] 2

/-- java/io/Serializable -/
def k4 : Class := { plain "java/io/Serializable" (some 0) with
  accessFlags := 1537
  interfaces := #[]
  cf := some (fileOf pool4 1 #[] #[] 1537 3 #[] #[])
  fields := #[]
  methods := #[]
  instanceTypes := #[]
  staticTypes := #[]
  resolved := Array.replicate 7 none
  statics := none }

def pool5 : Array CpInfo := pool [(2, .class_ 4), (1, u "java/lang/Enum"), (0, u "name"), (0, u "Ljava/lang/String;"), (0, .fieldref 2 8), (0, .nameAndType 9 10), (0, u "ordinal"), (0, u "I"), (1, .class_ 14), (1, u "java/lang/Object"), (4, u "hash"), (86, .class_ 108), (1, u "java/lang/Enum$EnumDesc"), (2, .class_ 112), (0, u "java/lang/constant/Constable"), (0, .class_ 114), (0, u "java/lang/Comparable"), (0, .class_ 116), (0, u "java/io/Serializable"), (9, u "()I")] 77

def k5c0 : Code := { maxStack := 1, maxLocals := 1, code := jdk_37_method_2_code, exceptionTable := #[], attributes := #[] }
def k5m0 : Method := { name := "ordinal", desc := "()I", sig := { parameters := [], returnType := some .int }, accessFlags := 17, code := some k5c0 }
/-- java/lang/Enum -/
def k5 : Class := { plain "java/lang/Enum" (some 0) with
  accessFlags := 1057
  interfaces := #[2, 3, 4]
  cf := some (fileOf pool5 2 #[.nestMembers #[106]] #[{ accessFlags := 17, nameIndex := 9, descriptorIndex := 126, attributes := #[] }] 1057 12 #[111, 113, 115] #[{ accessFlags := 18, nameIndex := 5, descriptorIndex := 6, attributes := #[] }, { accessFlags := 18, nameIndex := 9, descriptorIndex := 10, attributes := #[] }, { accessFlags := 2, nameIndex := 19, descriptorIndex := 10, attributes := #[] }])
  fields := #[{ name := "name", type := (.object "java/lang/String"), accessFlags := 18, slot := 0, constantValue := 0 }, { name := "ordinal", type := .int, accessFlags := 18, slot := 1, constantValue := 0 }, { name := "hash", type := .int, accessFlags := 2, slot := 2, constantValue := 0 }]
  methods := #[k5m0]
  instanceTypes := #[(.object "java/lang/String"), .int, .int]
  staticTypes := #[]
  resolved := Array.replicate 204 none
  statics := none }

def pool6 : Array CpInfo := pool [(1, .class_ 2), (0, u "com/example/linkwell/linkwell/index/HitKind"), (2, u "TITLE"), (0, u "Lcom/example/linkwell/linkwell/index/HitKind;"), (2, u "HEADING"), (2, u "URL"), (2, u "ANCHOR"), (2, u "PLAIN"), (2, u "$VALUES"), (0, u "[Lcom/example/linkwell/linkwell/index/HitKind;"), (6, .class_ 31), (1, u "java/lang/Enum")] 27

/-- com/example/linkwell/linkwell/index/HitKind -/
def k6 : Class := { plain "com/example/linkwell/linkwell/index/HitKind" (some 5) with
  accessFlags := 16433
  interfaces := #[]
  cf := some (fileOf pool6 1 #[] #[] 16433 29 #[] #[{ accessFlags := 16409, nameIndex := 5, descriptorIndex := 6, attributes := #[] }, { accessFlags := 16409, nameIndex := 9, descriptorIndex := 6, attributes := #[] }, { accessFlags := 16409, nameIndex := 12, descriptorIndex := 6, attributes := #[] }, { accessFlags := 16409, nameIndex := 15, descriptorIndex := 6, attributes := #[] }, { accessFlags := 16409, nameIndex := 18, descriptorIndex := 6, attributes := #[] }, { accessFlags := 4122, nameIndex := 21, descriptorIndex := 22, attributes := #[] }])
  fields := #[{ name := "TITLE", type := (.object "com/example/linkwell/linkwell/index/HitKind"), accessFlags := 16409, slot := 0, constantValue := 0 }, { name := "HEADING", type := (.object "com/example/linkwell/linkwell/index/HitKind"), accessFlags := 16409, slot := 1, constantValue := 0 }, { name := "URL", type := (.object "com/example/linkwell/linkwell/index/HitKind"), accessFlags := 16409, slot := 2, constantValue := 0 }, { name := "ANCHOR", type := (.object "com/example/linkwell/linkwell/index/HitKind"), accessFlags := 16409, slot := 3, constantValue := 0 }, { name := "PLAIN", type := (.object "com/example/linkwell/linkwell/index/HitKind"), accessFlags := 16409, slot := 4, constantValue := 0 }, { name := "$VALUES", type := (.array (.object "com/example/linkwell/linkwell/index/HitKind")), accessFlags := 4122, slot := 5, constantValue := 0 }]
  methods := #[]
  instanceTypes := #[(.object "java/lang/String"), .int, .int]
  staticTypes := #[(.object "com/example/linkwell/linkwell/index/HitKind"), (.object "com/example/linkwell/linkwell/index/HitKind"), (.object "com/example/linkwell/linkwell/index/HitKind"), (.object "com/example/linkwell/linkwell/index/HitKind"), (.object "com/example/linkwell/linkwell/index/HitKind"), (.array (.object "com/example/linkwell/linkwell/index/HitKind"))]
  resolved := Array.replicate 59 none
  statics := some 0 }

def pool7 : Array CpInfo := pool [(1, .methodref 2 3), (0, .class_ 4), (0, .nameAndType 5 6), (0, u "java/lang/Object"), (0, u "<init>"), (0, u "()V"), (0, .fieldref 8 9), (0, .class_ 10), (0, .nameAndType 11 12), (0, u "com/example/linkwell/linkwell/index/Hits"), (0, u "KINDS"), (0, u "[Lcom/example/linkwell/linkwell/index/HitKind;"), (0, .class_ 14), (0, u "[I"), (0, .fieldref 8 16), (0, .nameAndType 17 18), (0, u "positions"), (0, u "[[I"), (0, .fieldref 8 20), (0, .nameAndType 21 14), (0, u "counts"), (0, .methodref 23 24), (0, .class_ 25), (0, .nameAndType 26 27), (0, u "com/example/linkwell/linkwell/index/HitKind"), (0, u "ordinal"), (0, u "()I"), (26, u "add"), (0, u "(Lcom/example/linkwell/linkwell/index/HitKind;I)V"), (4, u "KEPT"), (0, u "I"), (8, u "count"), (0, u "(Lcom/example/linkwell/linkwell/index/HitKind;)I"), (0, u "position"), (0, u "(Lcom/example/linkwell/linkwell/index/HitKind;I)I"), (0, u "clear")] 20

def k7c0 : Code := { maxStack := 2, maxLocals := 1, code := prog_14_method_1_code, exceptionTable := #[], attributes := #[] }
def k7m0 : Method := { name := "<init>", desc := "()V", sig := { parameters := [], returnType := none }, accessFlags := 0, code := some k7c0 }
def k7c1 : Code := { maxStack := 7, maxLocals := 5, code := prog_14_method_2_code, exceptionTable := #[], attributes := #[] }
def k7m1 : Method := { name := "add", desc := "(Lcom/example/linkwell/linkwell/index/HitKind;I)V", sig := { parameters := [(.object "com/example/linkwell/linkwell/index/HitKind"), .int], returnType := none }, accessFlags := 0, code := some k7c1 }
def k7c2 : Code := { maxStack := 2, maxLocals := 2, code := prog_14_method_4_code, exceptionTable := #[], attributes := #[] }
def k7m2 : Method := { name := "count", desc := "(Lcom/example/linkwell/linkwell/index/HitKind;)I", sig := { parameters := [(.object "com/example/linkwell/linkwell/index/HitKind")], returnType := some .int }, accessFlags := 0, code := some k7c2 }
def k7c3 : Code := { maxStack := 2, maxLocals := 3, code := prog_14_method_5_code, exceptionTable := #[], attributes := #[] }
def k7m3 : Method := { name := "position", desc := "(Lcom/example/linkwell/linkwell/index/HitKind;I)I", sig := { parameters := [(.object "com/example/linkwell/linkwell/index/HitKind"), .int], returnType := some .int }, accessFlags := 0, code := some k7c3 }
def k7c4 : Code := { maxStack := 3, maxLocals := 2, code := prog_14_method_6_code, exceptionTable := #[], attributes := #[] }
def k7m4 : Method := { name := "clear", desc := "()V", sig := { parameters := [], returnType := none }, accessFlags := 0, code := some k7c4 }
/-- com/example/linkwell/linkwell/index/Hits -/
def k7 : Class := { plain "com/example/linkwell/linkwell/index/Hits" (some 0) with
  accessFlags := 48
  interfaces := #[]
  cf := some (fileOf pool7 8 #[] #[{ accessFlags := 0, nameIndex := 5, descriptorIndex := 6, attributes := #[] }, { accessFlags := 0, nameIndex := 54, descriptorIndex := 55, attributes := #[] }, { accessFlags := 0, nameIndex := 70, descriptorIndex := 71, attributes := #[] }, { accessFlags := 0, nameIndex := 72, descriptorIndex := 73, attributes := #[] }, { accessFlags := 0, nameIndex := 74, descriptorIndex := 6, attributes := #[] }] 48 2 #[] #[{ accessFlags := 26, nameIndex := 11, descriptorIndex := 12, attributes := #[] }, { accessFlags := 26, nameIndex := 60, descriptorIndex := 61, attributes := #[] }, { accessFlags := 18, nameIndex := 17, descriptorIndex := 18, attributes := #[] }, { accessFlags := 18, nameIndex := 21, descriptorIndex := 14, attributes := #[] }])
  fields := #[{ name := "KINDS", type := (.array (.object "com/example/linkwell/linkwell/index/HitKind")), accessFlags := 26, slot := 0, constantValue := 0 }, { name := "KEPT", type := .int, accessFlags := 26, slot := 1, constantValue := 0 }, { name := "positions", type := (.array (.array .int)), accessFlags := 18, slot := 0, constantValue := 0 }, { name := "counts", type := (.array .int), accessFlags := 18, slot := 1, constantValue := 0 }]
  methods := #[k7m0, k7m1, k7m2, k7m3, k7m4]
  instanceTypes := #[(.array (.array .int)), (.array .int)]
  staticTypes := #[(.array (.object "com/example/linkwell/linkwell/index/HitKind")), .int]
  resolved := Array.replicate 95 none
  statics := some 1 }

def pool8 : Array CpInfo := pool [(1, u "java/lang/Cloneable"), (0, .class_ 1), (0, u "java/lang/Object"), (0, .class_ 3)] 3

/-- java/lang/Cloneable -/
def k8 : Class := { plain "java/lang/Cloneable" (some 0) with
  accessFlags := 1537
  interfaces := #[]
  cf := some (fileOf pool8 2 #[] #[] 1537 4 #[] #[])
  fields := #[]
  methods := #[]
  instanceTypes := #[]
  staticTypes := #[]
  resolved := Array.replicate 8 none
  statics := none }

/-- the primitive byte -/
def k9 : Class := { plain "byte" none with kind := .primitive 'B', accessFlags := 0x411 }
/-- [B -/
def k10 : Class := { plain "[B" (some 0) with kind := .array 9 .byte, interfaces := #[8, 4], accessFlags := 1041 }

/-- the primitive int -/
def k11 : Class := { plain "int" none with kind := .primitive 'I', accessFlags := 0x411 }
/-- [I -/
def k12 : Class := { plain "[I" (some 0) with kind := .array 11 .int, interfaces := #[8, 4], accessFlags := 1041 }

/-- [Lcom/example/linkwell/linkwell/index/HitKind; -/
def k13 : Class := { plain "[Lcom/example/linkwell/linkwell/index/HitKind;" (some 0) with kind := .array 6 (.object "com/example/linkwell/linkwell/index/HitKind"), interfaces := #[8, 4], accessFlags := 1041 }

def heap : Heap := #[{ cls := 6, slots := #[.ref 3, .ref 4, .ref 5, .ref 6, .ref 7, .null], vm := .statics 6 },
  { cls := 7, slots := #[.ref 2, .int 0], vm := .statics 7 },
  { cls := 13, slots := #[.ref 3, .ref 4, .ref 5, .ref 6, .ref 7], vm := .none },
  { cls := 6, slots := #[.null, .int 0, .int 0], vm := .none },
  { cls := 6, slots := #[.null, .int 1, .int 0], vm := .none },
  { cls := 6, slots := #[.null, .int 2, .int 0], vm := .none },
  { cls := 6, slots := #[.null, .int 3, .int 0], vm := .none },
  { cls := 6, slots := #[.null, .int 4, .int 0], vm := .none }]
/-- [[I -/
def k14 : Class := { plain "[[I" (some 0) with kind := .array 12 (.array .int), interfaces := #[8, 4], accessFlags := 1041 }
def classes : Array Class := #[k0, k1, k2, k3, k4, k5, k6, k7, k8, k9, k10, k11, k12, k13, k14]
def interned : List (Array UInt16 × Addr) := []
def slotsUsed : Nat := 28
def theMethod : MethodId := ⟨1, 1⟩
def args0 : Array Value := #[.int 3, .int 300, .int 2, .int 8, .int 9]
def aboutOver (below : List Frame) : State where
  vm := { classes := classes, interned := interned.toArray }
  heap := heap
  slotsUsed := slotsUsed
  threads := #[{ frames := .invoking theMethod args0 :: below }]
def below0 : List Frame := [.native { method := ⟨0, 0⟩, args := #[] }]
def about1 : State := aboutOver below0
def p0 : Program := .bare "" "" ""
def e0 : Env := launch0.env 0 0 0
theorem w_frames : about1.frames = Frame.invoking theMethod args0 :: below0 := rfl
set_option maxRecDepth 65536 in
theorem w_args : argsFit about1.vm theMethod args0 = true := by decide +kernel
set_option maxRecDepth 65536 in
theorem w_heap : heapFits about1 = true := by decide +kernel
set_option maxRecDepth 65536 in
theorem w_runnable : about1.curStatus? = some .runnable := by decide +kernel
set_option maxRecDepth 65536 in
theorem w_alone : about1.alone = true := by decide +kernel
set_option maxRecDepth 65536 in
theorem w_named : about1.methodNamed? x = some theMethod := by decide +kernel
set_option maxRecDepth 65536 in
theorem w_hears : about1.hears theMethod below0 = true := by decide +kernel
set_option maxRecDepth 65536 in
theorem w_ripe : about1.ripe theMethod args0 below0 = true := by decide +kernel
theorem w_running : about1.status = .running := rfl
set_option maxRecDepth 65536 in
theorem w_room : about1.hasRoom e0.platform room_1 = true :=
  launch0.hasRoom_least _ room_1 (by decide +kernel) (by decide +kernel) (by decide +kernel) (by decide +kernel) (by decide +kernel) (by decide +kernel)
theorem allAtoms_all (ts : List Jvm.Cond) (a : Array Jvm.Value) (st : Jvm.State) : (allAtoms ts).before a st = ts.all (fun c => c.before a st) := by
  induction ts with
  | nil => rfl
  | cons c t ih =>
    show (Jvm.Cond.and c (allAtoms t)).before a st = _
    rw [Jvm.Cond.before_and, ih, List.all_cons]
def words1 : List Jvm.Cond := Jvm.Cond.code x code maxLocals ret :: tables_1
/-- a 'code' word, met by the world's own term for the bytes: nothing is compared byte by byte -/
theorem code_word {y : MethodName} {bytes : ByteArray} {mx : Nat} {rt : Option FieldType} {a : Array Value} {s : State} {m : MethodId} {meth : Method} {c : Code} (h1 : s.methodNamed? y = some m) (h2 : s.vm.method? m = some meth) (h3 : meth.code = some c) (h4 : c.code = bytes)
    (h5 : (c.maxLocals == mx && c.exceptionTable.isEmpty && decide (c.maxStack ≤ mostOperands) && decide (meth.sig.returnType = rt) && !meth.locks && decide (parseMethodDescriptor y.desc = some meth.sig)) = true) : (Jvm.Cond.code y bytes mx rt).before a s = true := by
  simp only [Bool.and_eq_true, beq_iff_eq, Bool.not_eq_true', decide_eq_true_eq] at h5
  obtain ⟨⟨⟨⟨⟨g1, g2⟩, g3⟩, g4⟩, g5⟩, g6⟩ := h5
  simp [Cond.before, Cond.holds, Cond.value, h1, h2, h3, h4, g1, g2, g3, g4, g5, g6]
def isCode : Jvm.Cond → Bool
  | .code _ _ _ _ => true
  | _ => false
theorem all_split {L : List Jvm.Cond} {P : Jvm.Cond → Bool} (h1 : L.all (fun c => isCode c || P c) = true) (h2 : ∀ c ∈ L.filter isCode, P c = true) : L.all P = true := by
  refine List.all_eq_true.mpr fun c hc => ?_
  have h := List.all_eq_true.mp h1 c hc
  rcases Bool.eq_false_or_eq_true (isCode c) with hi | hi
  · exact h2 c (List.mem_filter.mpr ⟨hc, hi⟩)
  · simpa [hi] using h
set_option maxRecDepth 65536 in
theorem w_c0 : (Jvm.Cond.code x code maxLocals ret).before args0 about1 = true := code_word (m := ⟨1, 1⟩) (meth := k1m1) (c := k1c1) (by decide +kernel) rfl rfl rfl (by decide +kernel)
set_option maxRecDepth 65536 in
theorem w_c1 : (Jvm.Cond.code ({ cls := "com/example/linkwell/linkwell/index/Hits", name := "<init>", desc := "()V" } : Jvm.MethodName) prog_14_method_1_code (1 : Nat) (Option.none : Option Jvm.ClassFile.FieldType)).before args0 about1 = true := code_word (m := ⟨7, 0⟩) (meth := k7m0) (c := k7c0) (by decide +kernel) rfl rfl rfl (by decide +kernel)
set_option maxRecDepth 65536 in
theorem w_c2 : (Jvm.Cond.code ({ cls := "java/lang/Object", name := "<init>", desc := "()V" } : Jvm.MethodName) object_method_1_code (1 : Nat) (Option.none : Option Jvm.ClassFile.FieldType)).before args0 about1 = true := code_word (m := ⟨0, 0⟩) (meth := k0m0) (c := k0c0) (by decide +kernel) rfl rfl rfl (by decide +kernel)
set_option maxRecDepth 65536 in
theorem w_c3 : (Jvm.Cond.code ({ cls := "com/example/linkwell/linkwell/index/Hits", name := "clear", desc := "()V" } : Jvm.MethodName) prog_14_method_6_code (2 : Nat) (Option.none : Option Jvm.ClassFile.FieldType)).before args0 about1 = true := code_word (m := ⟨7, 4⟩) (meth := k7m4) (c := k7c4) (by decide +kernel) rfl rfl rfl (by decide +kernel)
set_option maxRecDepth 65536 in
theorem w_c4 : (Jvm.Cond.code ({ cls := "com/example/linkwell/linkwell/index/Hits", name := "count", desc := "(Lcom/example/linkwell/linkwell/index/HitKind;)I" } : Jvm.MethodName) prog_14_method_4_code (2 : Nat) (Option.some Jvm.ClassFile.FieldType.int)).before args0 about1 = true := code_word (m := ⟨7, 2⟩) (meth := k7m2) (c := k7c2) (by decide +kernel) rfl rfl rfl (by decide +kernel)
set_option maxRecDepth 65536 in
theorem w_c5 : (Jvm.Cond.code ({ cls := "java/lang/Enum", name := "ordinal", desc := "()I" } : Jvm.MethodName) jdk_37_method_2_code (1 : Nat) (Option.some Jvm.ClassFile.FieldType.int)).before args0 about1 = true := code_word (m := ⟨5, 0⟩) (meth := k5m0) (c := k5c0) (by decide +kernel) rfl rfl rfl (by decide +kernel)
set_option maxRecDepth 65536 in
theorem w_c6 : (Jvm.Cond.code ({ cls := "com/example/linkwell/linkwell/index/Hits", name := "add", desc := "(Lcom/example/linkwell/linkwell/index/HitKind;I)V" } : Jvm.MethodName) prog_14_method_2_code (5 : Nat) (Option.none : Option Jvm.ClassFile.FieldType)).before args0 about1 = true := code_word (m := ⟨7, 1⟩) (meth := k7m1) (c := k7c1) (by decide +kernel) rfl rfl rfl (by decide +kernel)
set_option maxRecDepth 65536 in
theorem w_c7 : (Jvm.Cond.code ({ cls := "com/example/linkwell/linkwell/index/Hits", name := "position", desc := "(Lcom/example/linkwell/linkwell/index/HitKind;I)I" } : Jvm.MethodName) prog_14_method_5_code (3 : Nat) (Option.some Jvm.ClassFile.FieldType.int)).before args0 about1 = true := code_word (m := ⟨7, 3⟩) (meth := k7m3) (c := k7c3) (by decide +kernel) rfl rfl rfl (by decide +kernel)
def codes1 : List Jvm.Cond := [Jvm.Cond.code x code maxLocals ret, Jvm.Cond.code ({ cls := "com/example/linkwell/linkwell/index/Hits", name := "<init>", desc := "()V" } : Jvm.MethodName) prog_14_method_1_code (1 : Nat) (Option.none : Option Jvm.ClassFile.FieldType), Jvm.Cond.code ({ cls := "java/lang/Object", name := "<init>", desc := "()V" } : Jvm.MethodName) object_method_1_code (1 : Nat) (Option.none : Option Jvm.ClassFile.FieldType), Jvm.Cond.code ({ cls := "com/example/linkwell/linkwell/index/Hits", name := "clear", desc := "()V" } : Jvm.MethodName) prog_14_method_6_code (2 : Nat) (Option.none : Option Jvm.ClassFile.FieldType), Jvm.Cond.code ({ cls := "com/example/linkwell/linkwell/index/Hits", name := "count", desc := "(Lcom/example/linkwell/linkwell/index/HitKind;)I" } : Jvm.MethodName) prog_14_method_4_code (2 : Nat) (Option.some Jvm.ClassFile.FieldType.int), Jvm.Cond.code ({ cls := "java/lang/Enum", name := "ordinal", desc := "()I" } : Jvm.MethodName) jdk_37_method_2_code (1 : Nat) (Option.some Jvm.ClassFile.FieldType.int), Jvm.Cond.code ({ cls := "com/example/linkwell/linkwell/index/Hits", name := "add", desc := "(Lcom/example/linkwell/linkwell/index/HitKind;I)V" } : Jvm.MethodName) prog_14_method_2_code (5 : Nat) (Option.none : Option Jvm.ClassFile.FieldType), Jvm.Cond.code ({ cls := "com/example/linkwell/linkwell/index/Hits", name := "position", desc := "(Lcom/example/linkwell/linkwell/index/HitKind;I)I" } : Jvm.MethodName) prog_14_method_5_code (3 : Nat) (Option.some Jvm.ClassFile.FieldType.int)]
set_option maxRecDepth 65536 in
theorem codes_eq : words1.filter isCode = codes1 := rfl
theorem w_codes : ∀ c ∈ words1.filter isCode, c.before args0 about1 = true := by
  rw [codes_eq]
  intro c hc
  simp only [codes1, List.mem_cons, List.not_mem_nil, or_false] at hc
  rcases hc with rfl | rfl | rfl | rfl | rfl | rfl | rfl | rfl
  · exact w_c0
  · exact w_c1
  · exact w_c2
  · exact w_c3
  · exact w_c4
  · exact w_c5
  · exact w_c6
  · exact w_c7
set_option maxRecDepth 65536 in
theorem w_t1 : (words1.take 24).all (fun c => isCode c || c.before args0 about1) = true := by decide +kernel
set_option maxRecDepth 65536 in
theorem w_t2 : ((words1.drop 24).take 24).all (fun c => isCode c || c.before args0 about1) = true := by decide +kernel
set_option maxRecDepth 65536 in
theorem w_t3 : ((words1.drop 24).drop 24).all (fun c => isCode c || c.before args0 about1) = true := by decide +kernel
theorem w_tables : (allAtoms (Jvm.Cond.code x code maxLocals ret :: tables_1)).before args0 about1 = true := by
  rw [allAtoms_all]
  show words1.all (fun c => c.before args0 about1) = true
  refine all_split ?_ w_codes
  rw [← List.take_append_drop 24 words1, List.all_append, w_t1, ← List.take_append_drop 24 (words1.drop 24), List.all_append, w_t2, w_t3]
  rfl
set_option maxRecDepth 65536 in
theorem w_case : (Jvm.Cond.and given_1 narrow_1).before args0 about1 = true := by decide +kernel
theorem w_applies : (headSpec (Jvm.Cond.code x code maxLocals ret :: tables_1) room_1).applies x e0.platform about1 = true :=
  (Spec.applies_iff w_frames).mpr ⟨w_running, w_runnable, w_alone, w_named, w_hears, w_ripe, w_room, w_tables⟩
theorem atStart : AtStart classFile x code maxLocals ret World_1 tables_1 room_1 Calls_1 rest_1 Pre_1 launch0 p0 e0 about1 theMethod args0 below0 :=
  ⟨lists_1, trivial, launch0.admits_env _ _ _, launch0.least_env, fairChoices_fair.cas, fairChoices_fair.clock, w_frames, w_args, w_heap, w_applies, trivial, trivial, w_case⟩
end start1
theorem witness_1 : WitnessClaimed_1 := ⟨start1.p0, start1.e0, start1.about1, start1.theMethod, start1.args0, start1.below0, start1.atStart⟩
end Jvm.Pilot.@@N@@
