import JvmDerived
import JvmDerived.Pilot.@@N@@Statement
import JvmDerived.Pilot.@@N@@Code
set_option linter.unusedVariables false
set_option linter.unusedSimpArgs false
namespace Jvm.Pilot.@@N@@
open Jvm Jvm.ClassFile Sem Op Lib Jvm.Free Jvm.Stand Jvm.LawKit Jvm.RoadKit Bundle Jvm.Pilot.@@N@@.Jvm.D
section Own
variable {p : Program} {l : Launch} {e : Env} {R : Room} {s : State} {m : MethodId} {args : Array Value} {below : List Frame} {meth : Method} {c : Code} {T T' : State} {locs : List Loc} {cells slots C S : Nat} {Qv : Option Value → Heap → List Loc → Prop} {Z : State} {a0 : Array Value} {h : Heap}
/-- from here, with this frame on top, the method returns, Qv holds of what it returns, of the heap and of what was written, within C cells and S slots -/
def own_Ends (p : Program) (e : Env) (below : List Frame) (s : State) (C S : Nat) (Qv : Option Value → Heap → List Loc → Prop) (T : State) (g : JFrame) : Prop :=
  ∃ (s₂ : State) (o : Outcome), Steps p.tables e below (T.setTop g) s₂ ∧ s₂.status = .running ∧ Ended s₂ below o ∧ ∃ v L, o = .returned v ∧ Qv v s₂.heap L ∧ FrameEnd s o s₂ L C S
theorem own_go {g : JFrame} (g' : JFrame) (st : ∀ t, Steps p.tables e below (T'.setTop g') t → Steps p.tables e below (T.setTop g) t) (k : own_Ends p e below s C S Qv T' g') : own_Ends p e below s C S Qv T g := by
  obtain ⟨s₂, o, h1, h⟩ := k
  exact ⟨s₂, o, st _ h1, h⟩
theorem own_ret (X : Stand p l e R s m args below meth c T locs cells slots) (hlk : meth.locks = false) {g : JFrame} {v : Option Value} (hv : meth.sig.returnType = none → v = none)
    (st : ∀ fs, (∀ (f : JFrame) (acts : List Action), f.method = m → f.locked = none → f.entered = [] → (doReturn e (T.setTop f) acts v).1 = T.setFrames fs) → Steps p.tables e below (T.setTop g) (T.setFrames fs))
    (hC : cells ≤ C) (hS : slots ≤ S) (hQ : Qv v T.heap locs) : own_Ends p e below s C S Qv T g := by
  obtain ⟨fs, hr, hrun, hended, hW, hsame⟩ := X.leave (v := v) hv hlk
  exact ⟨_, _, st fs hr, hrun, hended, v, locs, rfl, hQ, ⟨_, rfl⟩, hW, hsame.mono hC hS⟩
theorem own_retI (X : Stand p l e R s m args below meth c T locs cells slots) (hx : p.tables.exec = Jvm.exec) (hlk : meth.locks = false) {pc : Nat} {Ls : Array Slot} {z : Int32} {rest : List Value} {t : FieldType} (hret : meth.sig.returnType = some t)
    (ht : t = .int ∨ t = .boolean ∨ t = .byte ∨ t = .char ∨ t = .short) (hn : narrow t (.int z) = .int z) (hd : decode c.code pc = .ok (.ireturn, 1)) (hC : cells ≤ C) (hS : slots ≤ S) (hQ : Qv (some (.int z)) T.heap locs) : own_Ends p e below s C S Qv T (mkF m pc Ls (.int z :: rest)) :=
  own_ret X hlk (fun h => by rw [hret] at h; cases h) (fun fs hr => retOut X hx hret hn (Or.inl ⟨rfl, ht, _, rfl⟩) hd hr) hC hS hQ
theorem own_retN (X : Stand p l e R s m args below meth c T locs cells slots) (hx : p.tables.exec = Jvm.exec) (hlk : meth.locks = false) {pc : Nat} {Ls : Array Slot} {z : Int32} {rest : List Value} {t : FieldType} (hret : meth.sig.returnType = some t)
    (ht : t = .boolean ∨ t = .byte ∨ t = .char ∨ t = .short) (hd : decode c.code pc = .ok (.ireturn, 1)) (hC : cells ≤ C) (hS : slots ≤ S) (hQ : Qv (some (.int (nar t z))) T.heap locs) : own_Ends p e below s C S Qv T (mkF m pc Ls (.int z :: rest)) :=
  own_ret X hlk (fun h => by rw [hret] at h; cases h) (fun fs hr => retN X hx hret ht hd hr) hC hS hQ
theorem own_retL (X : Stand p l e R s m args below meth c T locs cells slots) (hx : p.tables.exec = Jvm.exec) (hlk : meth.locks = false) {pc : Nat} {Ls : Array Slot} {z : Int64} {rest : List Value} (hret : meth.sig.returnType = some .long)
    (hd : decode c.code pc = .ok (.lreturn, 1)) (hC : cells ≤ C) (hS : slots ≤ S) (hQ : Qv (some (.long z)) T.heap locs) : own_Ends p e below s C S Qv T (mkF m pc Ls (.long z :: rest)) :=
  own_ret X hlk (fun h => by rw [hret] at h; cases h) (fun fs hr => retOut X hx hret rfl (Or.inr (Or.inl ⟨rfl, rfl, _, rfl⟩)) hd hr) hC hS hQ
theorem own_retA (X : Stand p l e R s m args below meth c T locs cells slots) (hx : p.tables.exec = Jvm.exec) (hlk : meth.locks = false) {pc : Nat} {Ls : Array Slot} {z : Addr} {rest : List Value} {t : FieldType} (hret : meth.sig.returnType = some t) (ht : t.isReference = true) (hn : narrow t (.ref z) = .ref z)
    (hd : decode c.code pc = .ok (.areturn, 1)) (hC : cells ≤ C) (hS : slots ≤ S) (hQ : Qv (some (.ref z)) T.heap locs) : own_Ends p e below s C S Qv T (mkF m pc Ls (.ref z :: rest)) :=
  own_ret X hlk (fun h => by rw [hret] at h; cases h) (fun fs hr => retOut X hx hret hn (Or.inr (Or.inr (Or.inr (Or.inr ⟨rfl, ht, rfl⟩)))) hd hr) hC hS hQ
theorem own_ret0 (X : Stand p l e R s m args below meth c T locs cells slots) (hx : p.tables.exec = Jvm.exec) (hlk : meth.locks = false) {pc : Nat} {Ls : Array Slot} (hret : meth.sig.returnType = none)
    (hd : decode c.code pc = .ok (.return_, 1)) (hC : cells ≤ C) (hS : slots ≤ S) (hQ : Qv none T.heap locs) : own_Ends p e below s C S Qv T (mkF m pc Ls []) :=
  own_ret X hlk (fun _ => rfl) (fun fs hr => X.returnOut hx hret hd hr) hC hS hQ
/-- a contract out of its body's walk -/
theorem own_met {y : MethodName} {bytes : ByteArray} {maxL : Nat} {ret : Option FieldType} {ws : List Jvm.Cond} {rm : Room} {as' : Array Value} {h0 : Heap} (hp : plainFor y = true)
    (body : ∀ (p : Program) (e : Env) (s : State) (m : MethodId) (below : List Frame) (meth : Method) (c : Code) (T : State), p.tables.exec = Jvm.exec → c.code = bytes → c.maxLocals = maxL → s.vm.findClass y.cls = some m.cls → meth.sig.returnType = ret → meth.locks = false → meth.name = y.name → Z.Warmed39 s.vm → Stand p l e rm s m as' below meth c T [] 0 0 → T.heap = h0 → own_Ends p e below s rm.cells rm.slots Qv T (entryFrame m as' maxL)) :
    MetFree l y (head1 (Jvm.Cond.code y bytes maxL ret :: ws) rm) (fun a U => a = as' ∧ Z.Warmed39 U.vm ∧ U.heap = h0) (fun _ _ _ _ _ => True) (fun _ U o U' => ∃ v L, o = .returned v ∧ Qv v U'.heap L ∧ FrameEnd U o U' L rm.cells rm.slots) := by
  refine MetFree.of_bodySF hp hisR ?_
  intro p e s m args below meth c s₁ Bd hml0 hP hK
  obtain ⟨rfl, hZ, hh⟩ := hP
  exact body p e s m below meth c s₁ Bd.exec Bd.bytes hml0 (findClass_of_methodNamed Bd.named) Bd.returns Bd.notSynchronized ((name_of_methodNamed Bd.named Bd.method).1) hZ (Stand.of_body Bd) (by rw [← hh, Bd.state]; rfl)
/-- what a callee's contract says (as' its arguments, h the heap where it is called) -/
abbrev own_Met (l : Launch) (Z : State) (y : MethodName) (bytes : ByteArray) (maxL : Nat) (ret : Option FieldType) (rm : Room) (as' : Array Value) (h : Heap) (Q : Option Value → Heap → List Loc → Prop) : Prop :=
  MetFree l y (head1 [Jvm.Cond.code y bytes maxL ret] rm) (fun a U => a = as' ∧ Z.Warmed39 U.vm ∧ U.heap = h) (fun _ _ _ _ _ => True) (fun _ U o U' => ∃ v L, o = .returned v ∧ Q v U'.heap L ∧ FrameEnd U o U' L rm.cells rm.slots)
theorem own_callS (X : Stand p l e R s m args below meth c T locs cells slots) (hx : p.tables.exec = Jvm.exec) (hZ : Z.Warmed39 s.vm) {own : String} {index : Nat} {y : MethodName} {bytes : ByteArray} {maxL : Nat} {ret : Option FieldType} {rm : Room} {as' : Array Value} {Q : Option Value → Heap → List Loc → Prop}
    (hown : s.vm.findClass own = some m.cls) (w1 : (Jvm.Cond.methodLink own index y).before a0 Z = true) (w2 : (Jvm.Cond.static y).before a0 Z = true) (w3 : (Jvm.Cond.initialized y.cls).before a0 Z = true) (w4 : (Jvm.Cond.code y bytes maxL ret).before a0 Z = true)
    (hy : y.cls ≠ "java/lang/invoke/MethodHandle" ∧ y.cls ≠ "java/lang/invoke/VarHandle") (eT : T.heap = h) (hM : own_Met l Z y bytes maxL ret rm as' h Q)
    (W : Nat) (hf : rm.frames + 1 ≤ R.frames) (hl : W + (maxL + 11) + rm.locals ≤ R.locals) (hC : cells + rm.cells ≤ R.cells) (hS : slots + rm.slots ≤ R.slots)
    {g : JFrame} (hg : g.method = m) (hsize : g.locals.size = c.maxLocals) (argsL rest : List Value) (hlen : ∀ sig, parseMethodDescriptor y.desc = some sig → argsL.length = sig.parameters.length)
    (hstack : g.stack = argsL.reverse ++ rest) (has : argsL.toArray = as') (hW : 2 * g.monitorRoom + (rest.map fun v => v.category).sum ≤ W) (hd : decode c.code g.pc = .ok (.invokestatic index, 3))
    (k : ∀ v T' h' L, Stand p l e R s m args below meth c T' (locs ++ L) (cells + rm.cells) (slots + rm.slots) → T'.heap = h' → Q v h' L → own_Ends p e below s C S Qv T' { g with pc := g.pc + 3, stack := v.toList ++ rest }) : own_Ends p e below s C S Qv T g := by
  obtain ⟨v, _, ⟨T', L', k', n'⟩, -, X', ⟨Lc, hQ, l1, y1, z1⟩, st⟩ := Jvm.LawKit.callS X hx (y := y) hown (mvT hZ w1) (mvT hZ w2) (mvT hZ w3) (mvT hZ w4) hy (backOf (W := W) hM hZ w4 w3 hf hl) (g := g) hg hsize (argsL := argsL) (rest := rest) hlen hstack hW hd (fun _ _ => ⟨has, eT, hC, hS⟩)
  dsimp only [Pt.U, Pt.locs, Pt.cells, Pt.slots] at X' l1 y1 z1 st hQ
  subst l1 y1 z1
  exact own_go _ st (k v T' _ Lc X' rfl hQ)
theorem own_callI (X : Stand p l e R s m args below meth c T locs cells slots) (hx : p.tables.exec = Jvm.exec) (hZ : Z.Warmed39 s.vm) {own : String} {index : Nat} {y : MethodName} {bytes : ByteArray} {maxL : Nat} {rm : Room} {as' : Array Value} {Q : Option Value → Heap → List Loc → Prop}
    (hown : s.vm.findClass own = some m.cls) (hy1 : y.name = "<init>") (w1 : (Jvm.Cond.methodLink own index y).before a0 Z = true) (w2 : (Jvm.Cond.instanceMethod y).before a0 Z = true) (w3 : (Jvm.Cond.initialized y.cls).before a0 Z = true) (w4 : (Jvm.Cond.code y bytes maxL none).before a0 Z = true)
    (hy : y.cls ≠ "java/lang/invoke/MethodHandle" ∧ y.cls ≠ "java/lang/invoke/VarHandle") (eT : T.heap = h) (hM : own_Met l Z y bytes maxL none rm as' h Q)
    (W : Nat) (hf : rm.frames + 1 ≤ R.frames) (hl : W + (maxL + 11) + rm.locals ≤ R.locals) (hC : cells + rm.cells ≤ R.cells) (hS : slots + rm.slots ≤ R.slots)
    {g : JFrame} (hg : g.method = m) (hsize : g.locals.size = c.maxLocals) (a : Addr) (argsL rest : List Value) (hlen : ∀ sig, parseMethodDescriptor y.desc = some sig → argsL.length = sig.parameters.length)
    (hstack : g.stack = argsL.reverse ++ .ref a :: rest) (has : (Value.ref a :: argsL).toArray = as') (hW : 2 * g.monitorRoom + (rest.map fun v => v.category).sum ≤ W) (hd : decode c.code g.pc = .ok (.invokespecial index, 3))
    (k : ∀ v T' h' L, Stand p l e R s m args below meth c T' (locs ++ L) (cells + rm.cells) (slots + rm.slots) → T'.heap = h' → Q v h' L → own_Ends p e below s C S Qv T' { g with pc := g.pc + 3, stack := v.toList ++ rest }) : own_Ends p e below s C S Qv T g := by
  obtain ⟨v, _, ⟨T', L', k', n'⟩, -, X', ⟨Lc, hQ, l1, y1, z1⟩, st⟩ := Jvm.LawKit.callI X hx (y := y) hown hy1 (mvT hZ w1) (mvT hZ w2) (mvT hZ w4) hy (backOf (W := W) hM hZ w4 w3 hf hl) (g := g) hg hsize (a := a) (argsL := argsL) (rest := rest) hlen hstack hW hd (fun _ _ => ⟨has, eT, hC, hS⟩)
  dsimp only [Pt.U, Pt.locs, Pt.cells, Pt.slots] at X' l1 y1 z1 st hQ
  subst l1 y1 z1
  exact own_go _ st (k v T' _ Lc X' rfl hQ)
theorem own_callV (X : Stand p l e R s m args below meth c T locs cells slots) (hx : p.tables.exec = Jvm.exec) (hZ : Z.Warmed39 s.vm) {own C0 : String} {index : Nat} {y : MethodName} {bytes : ByteArray} {maxL : Nat} {ret : Option FieldType} {rm : Room} {as' : Array Value} {Q : Option Value → Heap → List Loc → Prop}
    (hown : s.vm.findClass own = some m.cls) (w1 : (Jvm.Cond.methodLink own index y).before a0 Z = true) (w5 : (Jvm.Cond.declares y).before a0 Z = true) (w6 : (Jvm.Cond.selects C0 y y).before a0 Z = true) (w2 : (Jvm.Cond.instanceMethod y).before a0 Z = true) (w3 : (Jvm.Cond.initialized y.cls).before a0 Z = true) (w4 : (Jvm.Cond.code y bytes maxL ret).before a0 Z = true)
    (hy : y.cls ≠ "java/lang/invoke/MethodHandle" ∧ y.cls ≠ "java/lang/invoke/VarHandle") (eT : T.heap = h) (a : Addr) (E : Exa Z h a C0) (hM : own_Met l Z y bytes maxL ret rm as' h Q)
    (W : Nat) (hf : rm.frames + 1 ≤ R.frames) (hl : W + (maxL + 11) + rm.locals ≤ R.locals) (hC : cells + rm.cells ≤ R.cells) (hS : slots + rm.slots ≤ R.slots)
    {g : JFrame} (hg : g.method = m) (hsize : g.locals.size = c.maxLocals) (argsL rest : List Value) (hlen : ∀ sig, parseMethodDescriptor y.desc = some sig → argsL.length = sig.parameters.length)
    (hstack : g.stack = argsL.reverse ++ .ref a :: rest) (has : (Value.ref a :: argsL).toArray = as') (hW : 2 * g.monitorRoom + (rest.map fun v => v.category).sum ≤ W) (hd : decode c.code g.pc = .ok (.invokevirtual index, 3))
    (k : ∀ v T' h' L, Stand p l e R s m args below meth c T' (locs ++ L) (cells + rm.cells) (slots + rm.slots) → T'.heap = h' → Q v h' L → own_Ends p e below s C S Qv T' { g with pc := g.pc + 3, stack := v.toList ++ rest }) : own_Ends p e below s C S Qv T g := by
  obtain ⟨cq, kq, q1, q2, q3⟩ := isOf hZ eT E
  obtain ⟨v, _, ⟨T', L', k', n'⟩, -, X', ⟨Lc, hQ, l1, y1, z1⟩, st⟩ := X.virtualBack hx (y := y) (z := y) hown (mvT hZ w1) (mvT hZ w5) (notFace_of_selects (args := #[]) (mvT hZ w6)) (mvT hZ w6) (mvT hZ w2) hy (backOf (W := W) hM hZ w4 w3 hf hl) q1 q3 (g := g) hg hsize (Steps.refl _) (argsL := argsL) (rest := rest) hlen hstack hW hd (fun _ _ => ⟨has, eT, hC, hS⟩)
  dsimp only [Pt.U, Pt.locs, Pt.cells, Pt.slots] at X' l1 y1 z1 st hQ
  subst l1 y1 z1
  exact own_go _ (fun t q => st.trans q) (k v T' _ Lc X' rfl hQ)
theorem own_callP (X : Stand p l e R s m args below meth c T locs cells slots) (hx : p.tables.exec = Jvm.exec) (hZ : Z.Warmed39 s.vm) {own C0 : String} {index kk : Nat} {y : MethodName} {bytes : ByteArray} {maxL : Nat} {ret : Option FieldType} {rm : Room} {as' : Array Value} {Q : Option Value → Heap → List Loc → Prop}
    (hown : s.vm.findClass own = some m.cls) (w1 : (Jvm.Cond.methodLink own index y).before a0 Z = true) (w2 : (Jvm.Cond.instanceMethod y).before a0 Z = true) (wi : (Jvm.Cond.instantiable y.cls kk).before a0 Z = true) (w5 : (Jvm.Cond.privateMethod y).before a0 Z = true) (w3 : (Jvm.Cond.initialized y.cls).before a0 Z = true) (w4 : (Jvm.Cond.code y bytes maxL ret).before a0 Z = true)
    (hy : y.cls ≠ "java/lang/invoke/MethodHandle" ∧ y.cls ≠ "java/lang/invoke/VarHandle") (eT : T.heap = h) (a : Addr) (E : Exa Z h a C0) (hM : own_Met l Z y bytes maxL ret rm as' h Q)
    (W : Nat) (hf : rm.frames + 1 ≤ R.frames) (hl : W + (maxL + 11) + rm.locals ≤ R.locals) (hC : cells + rm.cells ≤ R.cells) (hS : slots + rm.slots ≤ R.slots)
    {g : JFrame} (hg : g.method = m) (hsize : g.locals.size = c.maxLocals) (argsL rest : List Value) (hlen : ∀ sig, parseMethodDescriptor y.desc = some sig → argsL.length = sig.parameters.length)
    (hstack : g.stack = argsL.reverse ++ .ref a :: rest) (has : (Value.ref a :: argsL).toArray = as') (hW : 2 * g.monitorRoom + (rest.map fun v => v.category).sum ≤ W) (hd : decode c.code g.pc = .ok (.invokevirtual index, 3))
    (k : ∀ v T' h' L, Stand p l e R s m args below meth c T' (locs ++ L) (cells + rm.cells) (slots + rm.slots) → T'.heap = h' → Q v h' L → own_Ends p e below s C S Qv T' { g with pc := g.pc + 3, stack := v.toList ++ rest }) : own_Ends p e below s C S Qv T g := by
  obtain ⟨cq, q1, q2⟩ := E.cell
  have hp := Cond.privateMethod_at (mvP hZ w5 (args := #[]))
  obtain ⟨c2, k2, i1, i2, i3, i4, -⟩ := Cond.instantiable_spec (mvT (args := args) hZ wi)
  have hni : k2.isInterface = false := (Bool.or_eq_false_iff.mp i4).1
  have w6 := selects_self_of_private i1 i2 hni hp (mvT (args := args) hZ w2) hy
  obtain ⟨v, _, ⟨T', L', k', n'⟩, -, X', ⟨Lc, hQ, l1, y1, z1⟩, st⟩ := X.privateBack hx (y := y) hown (mvT hZ w1) (mvT hZ w2) w6 hp (mvT hZ w4) hy (backOf (W := W) hM hZ w4 w3 hf hl) (g := g) hg hsize (Steps.refl _) (a := a) (by rw [eT]; exact q1) q2 (argsL := argsL) (rest := rest) hlen hstack hW hd (fun _ _ => ⟨has, eT, hC, hS⟩)
  dsimp only [Pt.U, Pt.locs, Pt.cells, Pt.slots] at X' l1 y1 z1 st hQ
  subst l1 y1 z1
  exact own_go _ (fun t q => st.trans q) (k v T' _ Lc X' rfl hQ)
abbrev own_rel (cd : ClassFile.Cond) (a b : Int) : Prop := match cd with | .eq => a = b | .ne => ¬ a = b | .lt => a < b | .ge => b ≤ a | .gt => b < a | .le => a ≤ b
theorem own_icT {cd : ClassFile.Cond} {x y : Int32} (h : own_rel cd x.toInt y.toInt) : if_icmp.holds cd x y = true := by
  cases cd <;> simp [own_rel] at h <;> simp [if_icmp.holds, Int32.lt_iff_toInt_lt, Int32.le_iff_toInt_le, ← Int32.toInt_inj, h]
theorem own_icF {cd : ClassFile.Cond} {x y : Int32} (h : ¬ own_rel cd x.toInt y.toInt) : if_icmp.holds cd x y = false := by
  cases cd <;> simp [own_rel] at h <;> simp [if_icmp.holds, Int32.lt_iff_toInt_lt, Int32.le_iff_toInt_le, ← Int32.toInt_inj, h]
theorem own_zT {cd : ClassFile.Cond} {x : Int32} (h : own_rel cd x.toInt 0) : ifCond.holds cd x = true := (if0 cd x).trans (own_icT h)
theorem own_zF {cd : ClassFile.Cond} {x : Int32} (h : ¬ own_rel cd x.toInt 0) : ifCond.holds cd x = false := (if0 cd x).trans (own_icF h)
theorem own_cmp (cd : ClassFile.Cond) (x y : Int64) : own_rel cd (lcmpW x y).toInt 0 ↔ own_rel cd x.toInt y.toInt := by
  have h := c_lcmp x y
  cases cd <;> simp only [own_rel] <;> omega
theorem own_lcT {cd : ClassFile.Cond} {x y : Int64} (h : own_rel cd x.toInt y.toInt) : ifCond.holds cd (lcmpW x y) = true := own_zT ((own_cmp cd x y).mpr h)
theorem own_lcF {cd : ClassFile.Cond} {x y : Int64} (h : ¬ own_rel cd x.toInt y.toInt) : ifCond.holds cd (lcmpW x y) = false := own_zF (fun q => h ((own_cmp cd x y).mp q))
theorem own_xorm1 (x : Int64) : (x ^^^ (-1 : Int64)).toInt = -x.toInt - 1 := by
  have h : x ^^^ (-1 : Int64) = ~~~x := by
    apply Int64.toBitVec_inj.mp
    show x.toBitVec ^^^ BitVec.ofInt 64 (-1) = ~~~x.toBitVec
    have : BitVec.ofInt 64 (-1) = BitVec.allOnes 64 := by decide
    rw [this, BitVec.xor_allOnes]
  rw [h, Int64.toInt_not]
  have := rng64 x
  have e : (-x.toInt - 1).bmod (2 ^ 64) = -x.toInt - 1 := by
    rw [Int.bmod_eq_of_le] <;> omega
  first | exact e | omega
theorem own_nz32 {y : Int32} (h : ¬ y.toInt = 0) : y ≠ 0 := fun q => h (by rw [q]; rfl)
theorem own_nz64 {y : Int64} (h : ¬ y.toInt = 0) : y ≠ 0 := fun q => h (by rw [q]; rfl)
theorem own_lremV (x y : Int64) : 0 ≤ x.toInt → 0 < y.toInt → 0 ≤ (x - (x / y) * y).toInt ∧ (x - (x / y) * y).toInt < y.toInt ∧ (x - (x / y) * y).toInt ≤ x.toInt := by
  intro h0 h1
  rw [(c_lrem x y y.toInt rfl).1 h0]
  refine ⟨Int.emod_nonneg _ (by omega), Int.emod_lt_of_pos _ h1, ?_⟩
  have := Int.emod_add_mul_ediv x.toInt y.toInt
  have h2 : 0 ≤ x.toInt / y.toInt := Int.ediv_nonneg h0 (by omega)
  have h3 : 0 ≤ y.toInt * (x.toInt / y.toInt) := Int.mul_nonneg (by omega) h2
  omega
theorem own_iremV (x y : Int32) : 0 ≤ x.toInt → 0 < y.toInt → 0 ≤ (x % y).toInt ∧ (x % y).toInt < y.toInt ∧ (x % y).toInt ≤ x.toInt := fun h0 h1 =>
  have h := (c_iremV x y).1 h0 h1
  ⟨h.1, h.2.1, h.2.2.1⟩
end Own
theorem d1_0 : decode prog_37_method_4_code 0 = .ok (.lload_n 0, 1) := by decide +kernel
theorem d1_1 : decode prog_37_method_4_code 1 = .ok (.ldc2_w 76, 3) := by decide +kernel
theorem d1_4 : decode prog_37_method_4_code 4 = .ok (.lload_n 2, 1) := by decide +kernel
theorem d1_5 : decode prog_37_method_4_code 5 = .ok (.lsub, 1) := by decide +kernel
theorem d1_6 : decode prog_37_method_4_code 6 = .ok (.lcmp, 1) := by decide +kernel
theorem d1_7 : decode prog_37_method_4_code 7 = .ok (.ifCond .le 9, 3) := by decide +kernel
theorem d1_10 : decode prog_37_method_4_code 10 = .ok (.ldc2_w 76, 3) := by decide +kernel
theorem d1_13 : decode prog_37_method_4_code 13 = .ok (.goto 6, 3) := by decide +kernel
theorem d1_16 : decode prog_37_method_4_code 16 = .ok (.lload_n 0, 1) := by decide +kernel
theorem d1_17 : decode prog_37_method_4_code 17 = .ok (.lload_n 2, 1) := by decide +kernel
theorem d1_18 : decode prog_37_method_4_code 18 = .ok (.ladd, 1) := by decide +kernel
theorem d1_19 : decode prog_37_method_4_code 19 = .ok (.lreturn, 1) := by decide +kernel
theorem pf1 : plainFor (⟨"com/example/starbyte/starbyte/hdu/NestedArrays", "sum", "(JJ)J"⟩ : MethodName) = true := by decide +kernel
theorem ef1 (m : MethodId) (q1 : Int64) (q2 : Int64) : entryFrame m #[(.long q1), (.long q2)] 4 = (mkF m 0 #[.val (.long q1), .second, .val (.long q2), .second] []) := by first | rfl | (simp [entryFrame, mkF, argsToLocals, Value.category, maxLocals]; done)
def Q1 (Z : State) (q1 : Int64) (q2 : Int64) (h0 : Heap) (n0 : Nat) (v : Option Value) (h : Heap) (L : List Loc) : Prop := (∃ r : Int64, v = some (.long r) ∧ (0 ≤ q1.toInt → 0 ≤ q2.toInt → (q1.toInt + q2.toInt ≤ 9223372036854775807 → r.toInt = q1.toInt + q2.toInt) ∧ (9223372036854775807 < q1.toInt + q2.toInt → r.toInt = 9223372036854775807))) ∧ Fr n0 L ∧ h = h0
set_option maxRecDepth 65536 in
set_option maxHeartbeats 40000000 in
theorem rm1 (l : Launch) (Z : State) (a0 : Array Value) (hw : ∀ d ∈ tables_1, d.before a0 Z = true) (ws : List Jvm.Cond) (q1 : Int64) (q2 : Int64) (h0 : Heap) (n0 : Nat) (Z0 : n0 ≤ h0.size) :
    MetFree l (⟨"com/example/starbyte/starbyte/hdu/NestedArrays", "sum", "(JJ)J"⟩ : MethodName) (head1 (Jvm.Cond.code (⟨"com/example/starbyte/starbyte/hdu/NestedArrays", "sum", "(JJ)J"⟩ : MethodName) prog_37_method_4_code 4 (some Jvm.ClassFile.FieldType.long) :: ws) ({ frames := 0, cells := 0, slots := 0, locals := 0 } : Room)) (fun aa U => aa = #[(.long q1), (.long q2)] ∧ Z.Warmed39 U.vm ∧ U.heap = h0) (fun _ _ _ _ _ => True) (fun _ U o U' => ∃ v L, o = .returned v ∧ Q1 Z q1 q2 h0 n0 v U'.heap L ∧ FrameEnd U o U' L ({ frames := 0, cells := 0, slots := 0, locals := 0 } : Room).cells ({ frames := 0, cells := 0, slots := 0, locals := 0 } : Room).slots) := by
  refine own_met pf1 ?_
  intro p e s m below meth c T0 hx hby hml hown hret hlk hnm hZ X0 e0
  have N0 := Fr.nil n0
  have r_q1 := rng64 q1
  have r_q2 := rng64 q2
  rw [ef1]
  refine own_go (mkF m 1 #[.val (.long q1), .second, .val (.long q2), .second] [(.long q1)]) (fun t k => XS.lloadN X0.here hx rfl (hb hby d1_0) rfl k) ?_
  refine own_go (mkF m 4 #[.val (.long q1), .second, .val (.long q2), .second] [(.long (9223372036854775807 : Int64)), (.long q1)]) (fun t k => X0.ldc2Long hx hown (mvT hZ (hw _ (List.mem_of_getElem? (i := 5) rfl))) (g := (mkF m 1 #[.val (.long q1), .second, .val (.long q2), .second] [(.long q1)])) rfl (hb hby d1_1) _ k) ?_
  refine own_go (mkF m 5 #[.val (.long q1), .second, .val (.long q2), .second] [(.long q2), (.long (9223372036854775807 : Int64)), (.long q1)]) (fun t k => XS.lloadN X0.here hx rfl (hb hby d1_4) rfl k) ?_
  refine own_go (mkF m 6 #[.val (.long q1), .second, .val (.long q2), .second] [(.long ((9223372036854775807 : Int64) - q2)), (.long q1)]) (fun t k => XS.lsub X0.here hx rfl (hb hby d1_5) rfl k) ?_
  generalize hv5 : ((9223372036854775807 : Int64) - q2) = v5
  have f5 : (v5.toInt - (9223372036854775807 - q2.toInt)) % 18446744073709551616 = 0 := by rw [← hv5]; exact c_lsub (9223372036854775807 : Int64) q2
  have r5 := rng64 v5
  refine own_go (mkF m 7 #[.val (.long q1), .second, .val (.long q2), .second] [(.int (lcmpW q1 v5))]) (fun t k => XS.lcmp X0.here hx rfl (hb hby d1_6) rfl k) ?_
  by_cases c7 : q1.toInt ≤ v5.toInt
  · skip
    refine own_go (mkF m 16 #[.val (.long q1), .second, .val (.long q2), .second] []) (fun t k => XS.ifYes X0.here hx rfl (pc0 := 7) (pc' := 16) rfl (hb hby d1_7) rfl (own_lcT (cd := .le) c7) (by decide) (by decide) k) ?_
    refine own_go (mkF m 17 #[.val (.long q1), .second, .val (.long q2), .second] [(.long q1)]) (fun t k => XS.lloadN X0.here hx rfl (hb hby d1_16) rfl k) ?_
    refine own_go (mkF m 18 #[.val (.long q1), .second, .val (.long q2), .second] [(.long q2), (.long q1)]) (fun t k => XS.lloadN X0.here hx rfl (hb hby d1_17) rfl k) ?_
    refine own_go (mkF m 19 #[.val (.long q1), .second, .val (.long q2), .second] [(.long (q1 + q2))]) (fun t k => XS.ladd X0.here hx rfl (hb hby d1_18) rfl k) ?_
    generalize hv18 : (q1 + q2) = v18
    have f18 : (v18.toInt - (q1.toInt + q2.toInt)) % 18446744073709551616 = 0 := by rw [← hv18]; exact c_ladd q1 q2
    have r18 := rng64 v18
    refine own_retL X0 hx hlk hret (hb hby d1_19) (by decide) (by decide) ?_
    rw [e0]
    refine ⟨⟨_, rfl, fun hq hp => ?_⟩, N0, rfl⟩
    show _ ∧ _
    have hM : (9223372036854775807 : Int64).toInt = 9223372036854775807 := by decide
    omega
  · skip
    refine own_go (mkF m 10 #[.val (.long q1), .second, .val (.long q2), .second] []) (fun t k => XS.ifNo X0.here hx rfl (hb hby d1_7) rfl (own_lcF (cd := .le) c7) k) ?_
    refine own_go (mkF m 13 #[.val (.long q1), .second, .val (.long q2), .second] [(.long (9223372036854775807 : Int64))]) (fun t k => X0.ldc2Long hx hown (mvT hZ (hw _ (List.mem_of_getElem? (i := 5) rfl))) (g := (mkF m 10 #[.val (.long q1), .second, .val (.long q2), .second] [])) rfl (hb hby d1_10) _ k) ?_
    refine own_go (mkF m 19 #[.val (.long q1), .second, .val (.long q2), .second] [(.long (9223372036854775807 : Int64))]) (fun t k => XS.goto X0.here hx rfl (pc0 := 13) (pc' := 19) rfl (hb hby d1_13) (by decide) (by decide) k) ?_
    refine own_retL X0 hx hlk hret (hb hby d1_19) (by decide) (by decide) ?_
    rw [e0]
    refine ⟨⟨_, rfl, fun hq hp => ?_⟩, N0, rfl⟩
    show _ ∧ _
    have hM : (9223372036854775807 : Int64).toInt = 9223372036854775807 := by decide
    omega
theorem pd0_0 : parseMethodDescriptor "(JJ)J" = some ⟨[.long, .long], some .long⟩ := by decide +kernel
theorem pf0 : plainFor (⟨"com/example/starbyte/starbyte/hdu/NestedArraysSumPinLaw", "law", "(JJI)Z"⟩ : MethodName) = true := by decide +kernel
theorem ef0 (m : MethodId) (q1 : Int64) (q2 : Int64) (q3 : Int32) : entryFrame m #[(.long q1), (.long q2), (.int q3)] maxLocals = (mkF m 0 #[.val (.long q1), .second, .val (.long q2), .second, .val (.int q3), .unset, .unset, .unset, .unset, .unset, .unset, .unset, .unset, .unset] []) := by first | rfl | (simp [entryFrame, mkF, argsToLocals, Value.category, maxLocals]; done)
def Q0 (Z : State) (q1 : Int64) (q2 : Int64) (q3 : Int32) (h0 : Heap) (n0 : Nat) (v : Option Value) (h : Heap) (L : List Loc) : Prop := v = some (.int 1) ∧ Fr n0 L
set_option maxRecDepth 65536 in
set_option maxHeartbeats 40000000 in
theorem rm0 (l : Launch) (Z : State) (a0 : Array Value) (hw : ∀ d ∈ tables_1, d.before a0 Z = true) (ws : List Jvm.Cond) (q1 : Int64) (q2 : Int64) (q3 : Int32) (h0 : Heap) (n0 : Nat) (Z0 : n0 ≤ h0.size) :
    MetFree l x (head1 (Jvm.Cond.code x code maxLocals ret :: ws) room_1) (fun aa U => aa = #[(.long q1), (.long q2), (.int q3)] ∧ Z.Warmed39 U.vm ∧ U.heap = h0) (fun _ _ _ _ _ => True) (fun _ U o U' => ∃ v L, o = .returned v ∧ Q0 Z q1 q2 q3 h0 n0 v U'.heap L ∧ FrameEnd U o U' L room_1.cells room_1.slots) := by
  refine own_met pf0 ?_
  intro p e s m below meth c T0 hx hby hml hown hret hlk hnm hZ X0 e0
  have N0 := Fr.nil n0
  have r_q1 := rng64 q1
  have r_q2 := rng64 q2
  have r_q3 := rng32 q3
  rw [ef0]
  refine own_go (mkF m 2 #[.val (.long q1), .second, .val (.long q2), .second, .val (.int q3), .unset, .unset, .unset, .unset, .unset, .unset, .unset, .unset, .unset] [(.int q3)]) (fun t k => XS.iload X0.here hx rfl (hb hby at_0) rfl k) ?_
  refine own_go (mkF m 3 #[.val (.long q1), .second, .val (.long q2), .second, .val (.int q3), .unset, .unset, .unset, .unset, .unset, .unset, .unset, .unset, .unset] [(.int (3 : Int32)), (.int q3)]) (fun t k => XS.iconst X0.here hx rfl (hb hby at_2) k) ?_
  refine own_go (mkF m 4 #[.val (.long q1), .second, .val (.long q2), .second, .val (.int q3), .unset, .unset, .unset, .unset, .unset, .unset, .unset, .unset, .unset] [(.int (q3 &&& (3 : Int32)))]) (fun t k => XS.iand X0.here hx rfl (hb hby at_3) rfl k) ?_
  generalize hv3 : (q3 &&& (3 : Int32)) = v3
  have f3 : v3.toInt = q3.toInt % 4 := by rw [← hv3]; exact c_mask q3 (3 : Int32) 2 (by decide) (by decide)
  have r3 := rng32 v3
  refine own_go (mkF m 6 #[.val (.long q1), .second, .val (.long q2), .second, .val (.int q3), .unset, .unset, .unset, .unset, .val (.int v3), .unset, .unset, .unset, .unset] []) (fun t k => XS.istore X0.here hx rfl (hb hby at_4) rfl (l' := #[.val (.long q1), .second, .val (.long q2), .second, .val (.int q3), .unset, .unset, .unset, .unset, .val (.int v3), .unset, .unset, .unset, .unset]) rfl k) ?_
  refine own_go (mkF m 8 #[.val (.long q1), .second, .val (.long q2), .second, .val (.int q3), .unset, .unset, .unset, .unset, .val (.int v3), .unset, .unset, .unset, .unset] [(.int v3)]) (fun t k => XS.iload X0.here hx rfl (hb hby at_6) rfl k) ?_
  by_cases c8 : v3.toInt = 0
  · skip
    refine own_go (mkF m 11 #[.val (.long q1), .second, .val (.long q2), .second, .val (.int q3), .unset, .unset, .unset, .unset, .val (.int v3), .unset, .unset, .unset, .unset] []) (fun t k => XS.ifNo X0.here hx rfl (hb hby at_8) rfl (own_zF (cd := .ne) (fun q => q c8)) k) ?_
    refine own_go (mkF m 12 #[.val (.long q1), .second, .val (.long q2), .second, .val (.int q3), .unset, .unset, .unset, .unset, .val (.int v3), .unset, .unset, .unset, .unset] [(.long q1)]) (fun t k => XS.lloadN X0.here hx rfl (hb hby at_11) rfl k) ?_
    refine own_go (mkF m 15 #[.val (.long q1), .second, .val (.long q2), .second, .val (.int q3), .unset, .unset, .unset, .unset, .val (.int v3), .unset, .unset, .unset, .unset] [(.long (9223372036854775807 : Int64)), (.long q1)]) (fun t k => X0.ldc2Long hx hown (mvT hZ (hw _ (List.mem_of_getElem? (i := 0) rfl))) (g := (mkF m 12 #[.val (.long q1), .second, .val (.long q2), .second, .val (.int q3), .unset, .unset, .unset, .unset, .val (.int v3), .unset, .unset, .unset, .unset] [(.long q1)])) rfl (hb hby at_12) _ k) ?_
    refine own_go (mkF m 16 #[.val (.long q1), .second, .val (.long q2), .second, .val (.int q3), .unset, .unset, .unset, .unset, .val (.int v3), .unset, .unset, .unset, .unset] [(.long (q1 &&& (9223372036854775807 : Int64)))]) (fun t k => XS.land X0.here hx rfl (hb hby at_15) rfl k) ?_
    generalize hv15 : (q1 &&& (9223372036854775807 : Int64)) = v15
    have f15 : v15.toInt = q1.toInt % 9223372036854775808 := by rw [← hv15]; exact c_maskL q1 (9223372036854775807 : Int64) 63 (by decide) (by decide)
    have r15 := rng64 v15
    refine own_go (mkF m 18 #[.val (.long q1), .second, .val (.long q2), .second, .val (.int q3), .val (.long v15), .second, .unset, .unset, .val (.int v3), .unset, .unset, .unset, .unset] []) (fun t k => XS.lstore X0.here hx rfl (hb hby at_16) rfl (l' := #[.val (.long q1), .second, .val (.long q2), .second, .val (.int q3), .val (.long v15), .second, .unset, .unset, .val (.int v3), .unset, .unset, .unset, .unset]) rfl k) ?_
    refine own_go (mkF m 19 #[.val (.long q1), .second, .val (.long q2), .second, .val (.int q3), .val (.long v15), .second, .unset, .unset, .val (.int v3), .unset, .unset, .unset, .unset] [(.long q2)]) (fun t k => XS.lloadN X0.here hx rfl (hb hby at_18) rfl k) ?_
    refine own_go (mkF m 22 #[.val (.long q1), .second, .val (.long q2), .second, .val (.int q3), .val (.long v15), .second, .unset, .unset, .val (.int v3), .unset, .unset, .unset, .unset] [(.long (9223372036854775807 : Int64)), (.long q2)]) (fun t k => X0.ldc2Long hx hown (mvT hZ (hw _ (List.mem_of_getElem? (i := 0) rfl))) (g := (mkF m 19 #[.val (.long q1), .second, .val (.long q2), .second, .val (.int q3), .val (.long v15), .second, .unset, .unset, .val (.int v3), .unset, .unset, .unset, .unset] [(.long q2)])) rfl (hb hby at_19) _ k) ?_
    refine own_go (mkF m 23 #[.val (.long q1), .second, .val (.long q2), .second, .val (.int q3), .val (.long v15), .second, .unset, .unset, .val (.int v3), .unset, .unset, .unset, .unset] [(.long (q2 &&& (9223372036854775807 : Int64)))]) (fun t k => XS.land X0.here hx rfl (hb hby at_22) rfl k) ?_
    generalize hv22 : (q2 &&& (9223372036854775807 : Int64)) = v22
    have f22 : v22.toInt = q2.toInt % 9223372036854775808 := by rw [← hv22]; exact c_maskL q2 (9223372036854775807 : Int64) 63 (by decide) (by decide)
    have r22 := rng64 v22
    refine own_go (mkF m 25 #[.val (.long q1), .second, .val (.long q2), .second, .val (.int q3), .val (.long v15), .second, .val (.long v22), .second, .val (.int v3), .unset, .unset, .unset, .unset] []) (fun t k => XS.lstore X0.here hx rfl (hb hby at_23) rfl (l' := #[.val (.long q1), .second, .val (.long q2), .second, .val (.int q3), .val (.long v15), .second, .val (.long v22), .second, .val (.int v3), .unset, .unset, .unset, .unset]) rfl k) ?_
    refine own_go (mkF m 107 #[.val (.long q1), .second, .val (.long q2), .second, .val (.int q3), .val (.long v15), .second, .val (.long v22), .second, .val (.int v3), .unset, .unset, .unset, .unset] []) (fun t k => XS.goto X0.here hx rfl (pc0 := 25) (pc' := 107) rfl (hb hby at_25) (by decide) (by decide) k) ?_
    refine own_go (mkF m 109 #[.val (.long q1), .second, .val (.long q2), .second, .val (.int q3), .val (.long v15), .second, .val (.long v22), .second, .val (.int v3), .unset, .unset, .unset, .unset] [(.long v15)]) (fun t k => XS.lload X0.here hx rfl (hb hby at_107) rfl k) ?_
    refine own_go (mkF m 111 #[.val (.long q1), .second, .val (.long q2), .second, .val (.int q3), .val (.long v15), .second, .val (.long v22), .second, .val (.int v3), .unset, .unset, .unset, .unset] [(.long v22), (.long v15)]) (fun t k => XS.lload X0.here hx rfl (hb hby at_109) rfl k) ?_
    refine own_go (mkF m 112 #[.val (.long q1), .second, .val (.long q2), .second, .val (.int q3), .val (.long v15), .second, .val (.long v22), .second, .val (.int v3), .unset, .unset, .unset, .unset] [(.long (v15 + v22))]) (fun t k => XS.ladd X0.here hx rfl (hb hby at_111) rfl k) ?_
    generalize hv111 : (v15 + v22) = v111
    have f111 : (v111.toInt - (v15.toInt + v22.toInt)) % 18446744073709551616 = 0 := by rw [← hv111]; exact c_ladd v15 v22
    have r111 := rng64 v111
    refine own_go (mkF m 114 #[.val (.long q1), .second, .val (.long q2), .second, .val (.int q3), .val (.long v15), .second, .val (.long v22), .second, .val (.int v3), .val (.long v111), .second, .unset, .unset] []) (fun t k => XS.lstore X0.here hx rfl (hb hby at_112) rfl (l' := #[.val (.long q1), .second, .val (.long q2), .second, .val (.int q3), .val (.long v15), .second, .val (.long v22), .second, .val (.int v3), .val (.long v111), .second, .unset, .unset]) rfl k) ?_
    refine own_go (mkF m 116 #[.val (.long q1), .second, .val (.long q2), .second, .val (.int q3), .val (.long v15), .second, .val (.long v22), .second, .val (.int v3), .val (.long v111), .second, .unset, .unset] [(.long v111)]) (fun t k => XS.lload X0.here hx rfl (hb hby at_114) rfl k) ?_
    refine own_go (mkF m 117 #[.val (.long q1), .second, .val (.long q2), .second, .val (.int q3), .val (.long v15), .second, .val (.long v22), .second, .val (.int v3), .val (.long v111), .second, .unset, .unset] [(.long (0 : Int64)), (.long v111)]) (fun t k => XS.lconst X0.here hx rfl (hb hby at_116) k) ?_
    refine own_go (mkF m 118 #[.val (.long q1), .second, .val (.long q2), .second, .val (.int q3), .val (.long v15), .second, .val (.long v22), .second, .val (.int v3), .val (.long v111), .second, .unset, .unset] [(.int (lcmpW v111 (0 : Int64)))]) (fun t k => XS.lcmp X0.here hx rfl (hb hby at_117) rfl k) ?_
    by_cases c118 : 0 ≤ v111.toInt
    · skip
      refine own_go (mkF m 127 #[.val (.long q1), .second, .val (.long q2), .second, .val (.int q3), .val (.long v15), .second, .val (.long v22), .second, .val (.int v3), .val (.long v111), .second, .unset, .unset] []) (fun t k => XS.ifYes X0.here hx rfl (pc0 := 118) (pc' := 127) rfl (hb hby at_118) rfl (own_lcT (cd := .ge) c118) (by decide) (by decide) k) ?_
      refine own_go (mkF m 129 #[.val (.long q1), .second, .val (.long q2), .second, .val (.int q3), .val (.long v15), .second, .val (.long v22), .second, .val (.int v3), .val (.long v111), .second, .unset, .unset] [(.long v111)]) (fun t k => XS.lload X0.here hx rfl (hb hby at_127) rfl k) ?_
      refine own_go (mkF m 131 #[.val (.long q1), .second, .val (.long q2), .second, .val (.int q3), .val (.long v15), .second, .val (.long v22), .second, .val (.int v3), .val (.long v111), .second, .val (.long v111), .second] []) (fun t k => XS.lstore X0.here hx rfl (hb hby at_129) rfl (l' := #[.val (.long q1), .second, .val (.long q2), .second, .val (.int q3), .val (.long v15), .second, .val (.long v22), .second, .val (.int v3), .val (.long v111), .second, .val (.long v111), .second]) rfl k) ?_
      refine own_go (mkF m 133 #[.val (.long q1), .second, .val (.long q2), .second, .val (.int q3), .val (.long v15), .second, .val (.long v22), .second, .val (.int v3), .val (.long v111), .second, .val (.long v111), .second] [(.long v15)]) (fun t k => XS.lload X0.here hx rfl (hb hby at_131) rfl k) ?_
      refine own_go (mkF m 135 #[.val (.long q1), .second, .val (.long q2), .second, .val (.int q3), .val (.long v15), .second, .val (.long v22), .second, .val (.int v3), .val (.long v111), .second, .val (.long v111), .second] [(.long v22), (.long v15)]) (fun t k => XS.lload X0.here hx rfl (hb hby at_133) rfl k) ?_
      refine own_callS X0 hx hZ (y := (⟨"com/example/starbyte/starbyte/hdu/NestedArrays", "sum", "(JJ)J"⟩ : MethodName)) hown (hw _ (List.mem_of_getElem? (i := 1) rfl)) (hw _ (List.mem_of_getElem? (i := 2) rfl)) (hw _ (List.mem_of_getElem? (i := 3) rfl)) (hw _ (List.mem_of_getElem? (i := 4) rfl)) (by decide) e0 (rm1 l Z a0 hw [] v15 v22 h0 n0 Z0) 0 (by decide) (by decide) (by decide) (by decide) (g := (mkF m 135 #[.val (.long q1), .second, .val (.long q2), .second, .val (.int q3), .val (.long v15), .second, .val (.long v22), .second, .val (.int v3), .val (.long v111), .second, .val (.long v111), .second] [(.long v22), (.long v15)])) rfl (by rw [hml]; rfl) [(.long v15), (.long v22)] [] (lenOf pd0_0 rfl) rfl rfl (by show 2 * 0 + _ ≤ _; exact Nat.le_of_eq rfl) (hb hby at_135) ?_
      intro rv135 T135 h135 L135 X135 e135 hQ135
      obtain ⟨⟨r135, rfl, hr135⟩, NQ135, eq135⟩ := hQ135
      rw [eq135] at e135
      have rr135 := rng64 r135
      have N135 := Fr.app N0 NQ135
      show own_Ends p e below s room_1.cells room_1.slots (Q0 Z q1 q2 q3 h0 n0) T135 (mkF m 138 #[.val (.long q1), .second, .val (.long q2), .second, .val (.int q3), .val (.long v15), .second, .val (.long v22), .second, .val (.int v3), .val (.long v111), .second, .val (.long v111), .second] [(.long r135)])
      refine own_go (mkF m 140 #[.val (.long q1), .second, .val (.long q2), .second, .val (.int q3), .val (.long v15), .second, .val (.long v22), .second, .val (.int v3), .val (.long v111), .second, .val (.long v111), .second] [(.long v111), (.long r135)]) (fun t k => XS.lload X135.here hx rfl (hb hby at_138) rfl k) ?_
      refine own_go (mkF m 141 #[.val (.long q1), .second, .val (.long q2), .second, .val (.int q3), .val (.long v15), .second, .val (.long v22), .second, .val (.int v3), .val (.long v111), .second, .val (.long v111), .second] [(.int (lcmpW r135 v111))]) (fun t k => XS.lcmp X135.here hx rfl (hb hby at_140) rfl k) ?_
      by_cases c141 : r135.toInt = v111.toInt
      · skip
        refine own_go (mkF m 144 #[.val (.long q1), .second, .val (.long q2), .second, .val (.int q3), .val (.long v15), .second, .val (.long v22), .second, .val (.int v3), .val (.long v111), .second, .val (.long v111), .second] []) (fun t k => XS.ifNo X135.here hx rfl (hb hby at_141) rfl (own_lcF (cd := .ne) (fun q => q c141)) k) ?_
        refine own_go (mkF m 145 #[.val (.long q1), .second, .val (.long q2), .second, .val (.int q3), .val (.long v15), .second, .val (.long v22), .second, .val (.int v3), .val (.long v111), .second, .val (.long v111), .second] [(.int (1 : Int32))]) (fun t k => XS.iconst X135.here hx rfl (hb hby at_144) k) ?_
        refine own_go (mkF m 149 #[.val (.long q1), .second, .val (.long q2), .second, .val (.int q3), .val (.long v15), .second, .val (.long v22), .second, .val (.int v3), .val (.long v111), .second, .val (.long v111), .second] [(.int (1 : Int32))]) (fun t k => XS.goto X135.here hx rfl (pc0 := 145) (pc' := 149) rfl (hb hby at_145) (by decide) (by decide) k) ?_
        refine own_retI X135 hx hlk hret (by simp) rfl (hb hby at_149) (by decide) (by decide) ?_
        rw [e135]
        exact ⟨rfl, N135⟩
      · skip
        refine own_go (mkF m 148 #[.val (.long q1), .second, .val (.long q2), .second, .val (.int q3), .val (.long v15), .second, .val (.long v22), .second, .val (.int v3), .val (.long v111), .second, .val (.long v111), .second] []) (fun t k => XS.ifYes X135.here hx rfl (pc0 := 141) (pc' := 148) rfl (hb hby at_141) rfl (own_lcT (cd := .ne) c141) (by decide) (by decide) k) ?_
        refine own_go (mkF m 149 #[.val (.long q1), .second, .val (.long q2), .second, .val (.int q3), .val (.long v15), .second, .val (.long v22), .second, .val (.int v3), .val (.long v111), .second, .val (.long v111), .second] [(.int (0 : Int32))]) (fun t k => XS.iconst X135.here hx rfl (hb hby at_148) k) ?_
        refine own_retI X135 hx hlk hret (by simp) rfl (hb hby at_149) (by decide) (by decide) ?_
        rw [e135]
        exfalso
        omega
    · skip
      refine own_go (mkF m 121 #[.val (.long q1), .second, .val (.long q2), .second, .val (.int q3), .val (.long v15), .second, .val (.long v22), .second, .val (.int v3), .val (.long v111), .second, .unset, .unset] []) (fun t k => XS.ifNo X0.here hx rfl (hb hby at_118) rfl (own_lcF (cd := .ge) c118) k) ?_
      refine own_go (mkF m 124 #[.val (.long q1), .second, .val (.long q2), .second, .val (.int q3), .val (.long v15), .second, .val (.long v22), .second, .val (.int v3), .val (.long v111), .second, .unset, .unset] [(.long (9223372036854775807 : Int64))]) (fun t k => X0.ldc2Long hx hown (mvT hZ (hw _ (List.mem_of_getElem? (i := 0) rfl))) (g := (mkF m 121 #[.val (.long q1), .second, .val (.long q2), .second, .val (.int q3), .val (.long v15), .second, .val (.long v22), .second, .val (.int v3), .val (.long v111), .second, .unset, .unset] [])) rfl (hb hby at_121) _ k) ?_
      refine own_go (mkF m 129 #[.val (.long q1), .second, .val (.long q2), .second, .val (.int q3), .val (.long v15), .second, .val (.long v22), .second, .val (.int v3), .val (.long v111), .second, .unset, .unset] [(.long (9223372036854775807 : Int64))]) (fun t k => XS.goto X0.here hx rfl (pc0 := 124) (pc' := 129) rfl (hb hby at_124) (by decide) (by decide) k) ?_
      refine own_go (mkF m 131 #[.val (.long q1), .second, .val (.long q2), .second, .val (.int q3), .val (.long v15), .second, .val (.long v22), .second, .val (.int v3), .val (.long v111), .second, .val (.long (9223372036854775807 : Int64)), .second] []) (fun t k => XS.lstore X0.here hx rfl (hb hby at_129) rfl (l' := #[.val (.long q1), .second, .val (.long q2), .second, .val (.int q3), .val (.long v15), .second, .val (.long v22), .second, .val (.int v3), .val (.long v111), .second, .val (.long (9223372036854775807 : Int64)), .second]) rfl k) ?_
      refine own_go (mkF m 133 #[.val (.long q1), .second, .val (.long q2), .second, .val (.int q3), .val (.long v15), .second, .val (.long v22), .second, .val (.int v3), .val (.long v111), .second, .val (.long (9223372036854775807 : Int64)), .second] [(.long v15)]) (fun t k => XS.lload X0.here hx rfl (hb hby at_131) rfl k) ?_
      refine own_go (mkF m 135 #[.val (.long q1), .second, .val (.long q2), .second, .val (.int q3), .val (.long v15), .second, .val (.long v22), .second, .val (.int v3), .val (.long v111), .second, .val (.long (9223372036854775807 : Int64)), .second] [(.long v22), (.long v15)]) (fun t k => XS.lload X0.here hx rfl (hb hby at_133) rfl k) ?_
      refine own_callS X0 hx hZ (y := (⟨"com/example/starbyte/starbyte/hdu/NestedArrays", "sum", "(JJ)J"⟩ : MethodName)) hown (hw _ (List.mem_of_getElem? (i := 1) rfl)) (hw _ (List.mem_of_getElem? (i := 2) rfl)) (hw _ (List.mem_of_getElem? (i := 3) rfl)) (hw _ (List.mem_of_getElem? (i := 4) rfl)) (by decide) e0 (rm1 l Z a0 hw [] v15 v22 h0 n0 Z0) 0 (by decide) (by decide) (by decide) (by decide) (g := (mkF m 135 #[.val (.long q1), .second, .val (.long q2), .second, .val (.int q3), .val (.long v15), .second, .val (.long v22), .second, .val (.int v3), .val (.long v111), .second, .val (.long (9223372036854775807 : Int64)), .second] [(.long v22), (.long v15)])) rfl (by rw [hml]; rfl) [(.long v15), (.long v22)] [] (lenOf pd0_0 rfl) rfl rfl (by show 2 * 0 + _ ≤ _; exact Nat.le_of_eq rfl) (hb hby at_135) ?_
      intro rv135 T135 h135 L135 X135 e135 hQ135
      obtain ⟨⟨r135, rfl, hr135⟩, NQ135, eq135⟩ := hQ135
      rw [eq135] at e135
      have rr135 := rng64 r135
      have N135 := Fr.app N0 NQ135
      show own_Ends p e below s room_1.cells room_1.slots (Q0 Z q1 q2 q3 h0 n0) T135 (mkF m 138 #[.val (.long q1), .second, .val (.long q2), .second, .val (.int q3), .val (.long v15), .second, .val (.long v22), .second, .val (.int v3), .val (.long v111), .second, .val (.long (9223372036854775807 : Int64)), .second] [(.long r135)])
      refine own_go (mkF m 140 #[.val (.long q1), .second, .val (.long q2), .second, .val (.int q3), .val (.long v15), .second, .val (.long v22), .second, .val (.int v3), .val (.long v111), .second, .val (.long (9223372036854775807 : Int64)), .second] [(.long (9223372036854775807 : Int64)), (.long r135)]) (fun t k => XS.lload X135.here hx rfl (hb hby at_138) rfl k) ?_
      refine own_go (mkF m 141 #[.val (.long q1), .second, .val (.long q2), .second, .val (.int q3), .val (.long v15), .second, .val (.long v22), .second, .val (.int v3), .val (.long v111), .second, .val (.long (9223372036854775807 : Int64)), .second] [(.int (lcmpW r135 (9223372036854775807 : Int64)))]) (fun t k => XS.lcmp X135.here hx rfl (hb hby at_140) rfl k) ?_
      by_cases c141 : r135.toInt = 9223372036854775807
      · skip
        refine own_go (mkF m 144 #[.val (.long q1), .second, .val (.long q2), .second, .val (.int q3), .val (.long v15), .second, .val (.long v22), .second, .val (.int v3), .val (.long v111), .second, .val (.long (9223372036854775807 : Int64)), .second] []) (fun t k => XS.ifNo X135.here hx rfl (hb hby at_141) rfl (own_lcF (cd := .ne) (fun q => q c141)) k) ?_
        refine own_go (mkF m 145 #[.val (.long q1), .second, .val (.long q2), .second, .val (.int q3), .val (.long v15), .second, .val (.long v22), .second, .val (.int v3), .val (.long v111), .second, .val (.long (9223372036854775807 : Int64)), .second] [(.int (1 : Int32))]) (fun t k => XS.iconst X135.here hx rfl (hb hby at_144) k) ?_
        refine own_go (mkF m 149 #[.val (.long q1), .second, .val (.long q2), .second, .val (.int q3), .val (.long v15), .second, .val (.long v22), .second, .val (.int v3), .val (.long v111), .second, .val (.long (9223372036854775807 : Int64)), .second] [(.int (1 : Int32))]) (fun t k => XS.goto X135.here hx rfl (pc0 := 145) (pc' := 149) rfl (hb hby at_145) (by decide) (by decide) k) ?_
        refine own_retI X135 hx hlk hret (by simp) rfl (hb hby at_149) (by decide) (by decide) ?_
        rw [e135]
        exact ⟨rfl, N135⟩
      · skip
        refine own_go (mkF m 148 #[.val (.long q1), .second, .val (.long q2), .second, .val (.int q3), .val (.long v15), .second, .val (.long v22), .second, .val (.int v3), .val (.long v111), .second, .val (.long (9223372036854775807 : Int64)), .second] []) (fun t k => XS.ifYes X135.here hx rfl (pc0 := 141) (pc' := 148) rfl (hb hby at_141) rfl (own_lcT (cd := .ne) c141) (by decide) (by decide) k) ?_
        refine own_go (mkF m 149 #[.val (.long q1), .second, .val (.long q2), .second, .val (.int q3), .val (.long v15), .second, .val (.long v22), .second, .val (.int v3), .val (.long v111), .second, .val (.long (9223372036854775807 : Int64)), .second] [(.int (0 : Int32))]) (fun t k => XS.iconst X135.here hx rfl (hb hby at_148) k) ?_
        refine own_retI X135 hx hlk hret (by simp) rfl (hb hby at_149) (by decide) (by decide) ?_
        rw [e135]
        exfalso
        omega
  · skip
    refine own_go (mkF m 28 #[.val (.long q1), .second, .val (.long q2), .second, .val (.int q3), .unset, .unset, .unset, .unset, .val (.int v3), .unset, .unset, .unset, .unset] []) (fun t k => XS.ifYes X0.here hx rfl (pc0 := 8) (pc' := 28) rfl (hb hby at_8) rfl (own_zT (cd := .ne) c8) (by decide) (by decide) k) ?_
    refine own_go (mkF m 30 #[.val (.long q1), .second, .val (.long q2), .second, .val (.int q3), .unset, .unset, .unset, .unset, .val (.int v3), .unset, .unset, .unset, .unset] [(.int v3)]) (fun t k => XS.iload X0.here hx rfl (hb hby at_28) rfl k) ?_
    refine own_go (mkF m 31 #[.val (.long q1), .second, .val (.long q2), .second, .val (.int q3), .unset, .unset, .unset, .unset, .val (.int v3), .unset, .unset, .unset, .unset] [(.int (1 : Int32)), (.int v3)]) (fun t k => XS.iconst X0.here hx rfl (hb hby at_30) k) ?_
    by_cases c31 : v3.toInt = 1
    · skip
      refine own_go (mkF m 34 #[.val (.long q1), .second, .val (.long q2), .second, .val (.int q3), .unset, .unset, .unset, .unset, .val (.int v3), .unset, .unset, .unset, .unset] []) (fun t k => XS.icmpNo X0.here hx rfl (hb hby at_31) rfl (own_icF (cd := .ne) (fun q => q c31)) k) ?_
      refine own_go (mkF m 35 #[.val (.long q1), .second, .val (.long q2), .second, .val (.int q3), .unset, .unset, .unset, .unset, .val (.int v3), .unset, .unset, .unset, .unset] [(.long q1)]) (fun t k => XS.lloadN X0.here hx rfl (hb hby at_34) rfl k) ?_
      refine own_go (mkF m 38 #[.val (.long q1), .second, .val (.long q2), .second, .val (.int q3), .unset, .unset, .unset, .unset, .val (.int v3), .unset, .unset, .unset, .unset] [(.long (9223372036854775807 : Int64)), (.long q1)]) (fun t k => X0.ldc2Long hx hown (mvT hZ (hw _ (List.mem_of_getElem? (i := 0) rfl))) (g := (mkF m 35 #[.val (.long q1), .second, .val (.long q2), .second, .val (.int q3), .unset, .unset, .unset, .unset, .val (.int v3), .unset, .unset, .unset, .unset] [(.long q1)])) rfl (hb hby at_35) _ k) ?_
      refine own_go (mkF m 39 #[.val (.long q1), .second, .val (.long q2), .second, .val (.int q3), .unset, .unset, .unset, .unset, .val (.int v3), .unset, .unset, .unset, .unset] [(.long (q1 &&& (9223372036854775807 : Int64)))]) (fun t k => XS.land X0.here hx rfl (hb hby at_38) rfl k) ?_
      generalize hv38 : (q1 &&& (9223372036854775807 : Int64)) = v38
      have f38 : v38.toInt = q1.toInt % 9223372036854775808 := by rw [← hv38]; exact c_maskL q1 (9223372036854775807 : Int64) 63 (by decide) (by decide)
      have r38 := rng64 v38
      refine own_go (mkF m 41 #[.val (.long q1), .second, .val (.long q2), .second, .val (.int q3), .val (.long v38), .second, .unset, .unset, .val (.int v3), .unset, .unset, .unset, .unset] []) (fun t k => XS.lstore X0.here hx rfl (hb hby at_39) rfl (l' := #[.val (.long q1), .second, .val (.long q2), .second, .val (.int q3), .val (.long v38), .second, .unset, .unset, .val (.int v3), .unset, .unset, .unset, .unset]) rfl k) ?_
      refine own_go (mkF m 42 #[.val (.long q1), .second, .val (.long q2), .second, .val (.int q3), .val (.long v38), .second, .unset, .unset, .val (.int v3), .unset, .unset, .unset, .unset] [(.long q2)]) (fun t k => XS.lloadN X0.here hx rfl (hb hby at_41) rfl k) ?_
      refine own_go (mkF m 45 #[.val (.long q1), .second, .val (.long q2), .second, .val (.int q3), .val (.long v38), .second, .unset, .unset, .val (.int v3), .unset, .unset, .unset, .unset] [(.long (7 : Int64)), (.long q2)]) (fun t k => X0.ldc2Long hx hown (mvT hZ (hw _ (List.mem_of_getElem? (i := 7) rfl))) (g := (mkF m 42 #[.val (.long q1), .second, .val (.long q2), .second, .val (.int q3), .val (.long v38), .second, .unset, .unset, .val (.int v3), .unset, .unset, .unset, .unset] [(.long q2)])) rfl (hb hby at_42) _ k) ?_
      refine own_go (mkF m 46 #[.val (.long q1), .second, .val (.long q2), .second, .val (.int q3), .val (.long v38), .second, .unset, .unset, .val (.int v3), .unset, .unset, .unset, .unset] [(.long (q2 &&& (7 : Int64)))]) (fun t k => XS.land X0.here hx rfl (hb hby at_45) rfl k) ?_
      generalize hv45 : (q2 &&& (7 : Int64)) = v45
      have f45 : v45.toInt = q2.toInt % 8 := by rw [← hv45]; exact c_maskL q2 (7 : Int64) 3 (by decide) (by decide)
      have r45 := rng64 v45
      refine own_go (mkF m 49 #[.val (.long q1), .second, .val (.long q2), .second, .val (.int q3), .val (.long v38), .second, .unset, .unset, .val (.int v3), .unset, .unset, .unset, .unset] [(.long (4 : Int64)), (.long v45)]) (fun t k => X0.ldc2Long hx hown (mvT hZ (hw _ (List.mem_of_getElem? (i := 8) rfl))) (g := (mkF m 46 #[.val (.long q1), .second, .val (.long q2), .second, .val (.int q3), .val (.long v38), .second, .unset, .unset, .val (.int v3), .unset, .unset, .unset, .unset] [(.long v45)])) rfl (hb hby at_46) _ k) ?_
      refine own_go (mkF m 50 #[.val (.long q1), .second, .val (.long q2), .second, .val (.int q3), .val (.long v38), .second, .unset, .unset, .val (.int v3), .unset, .unset, .unset, .unset] [(.long (v45 - (4 : Int64)))]) (fun t k => XS.lsub X0.here hx rfl (hb hby at_49) rfl k) ?_
      generalize hv49 : (v45 - (4 : Int64)) = v49
      have f49 : (v49.toInt - (v45.toInt - 4)) % 18446744073709551616 = 0 := by rw [← hv49]; exact c_lsub v45 (4 : Int64)
      have r49 := rng64 v49
      refine own_go (mkF m 52 #[.val (.long q1), .second, .val (.long q2), .second, .val (.int q3), .val (.long v38), .second, .unset, .unset, .val (.int v3), .val (.long v49), .second, .unset, .unset] []) (fun t k => XS.lstore X0.here hx rfl (hb hby at_50) rfl (l' := #[.val (.long q1), .second, .val (.long q2), .second, .val (.int q3), .val (.long v38), .second, .unset, .unset, .val (.int v3), .val (.long v49), .second, .unset, .unset]) rfl k) ?_
      refine own_go (mkF m 55 #[.val (.long q1), .second, .val (.long q2), .second, .val (.int q3), .val (.long v38), .second, .unset, .unset, .val (.int v3), .val (.long v49), .second, .unset, .unset] [(.long (9223372036854775807 : Int64))]) (fun t k => X0.ldc2Long hx hown (mvT hZ (hw _ (List.mem_of_getElem? (i := 0) rfl))) (g := (mkF m 52 #[.val (.long q1), .second, .val (.long q2), .second, .val (.int q3), .val (.long v38), .second, .unset, .unset, .val (.int v3), .val (.long v49), .second, .unset, .unset] [])) rfl (hb hby at_52) _ k) ?_
      refine own_go (mkF m 57 #[.val (.long q1), .second, .val (.long q2), .second, .val (.int q3), .val (.long v38), .second, .unset, .unset, .val (.int v3), .val (.long v49), .second, .unset, .unset] [(.long v38), (.long (9223372036854775807 : Int64))]) (fun t k => XS.lload X0.here hx rfl (hb hby at_55) rfl k) ?_
      refine own_go (mkF m 58 #[.val (.long q1), .second, .val (.long q2), .second, .val (.int q3), .val (.long v38), .second, .unset, .unset, .val (.int v3), .val (.long v49), .second, .unset, .unset] [(.long ((9223372036854775807 : Int64) - v38))]) (fun t k => XS.lsub X0.here hx rfl (hb hby at_57) rfl k) ?_
      generalize hv57 : ((9223372036854775807 : Int64) - v38) = v57
      have f57 : (v57.toInt - (9223372036854775807 - v38.toInt)) % 18446744073709551616 = 0 := by rw [← hv57]; exact c_lsub (9223372036854775807 : Int64) v38
      have r57 := rng64 v57
      refine own_go (mkF m 60 #[.val (.long q1), .second, .val (.long q2), .second, .val (.int q3), .val (.long v38), .second, .unset, .unset, .val (.int v3), .val (.long v49), .second, .unset, .unset] [(.long v49), (.long v57)]) (fun t k => XS.lload X0.here hx rfl (hb hby at_58) rfl k) ?_
      refine own_go (mkF m 61 #[.val (.long q1), .second, .val (.long q2), .second, .val (.int q3), .val (.long v38), .second, .unset, .unset, .val (.int v3), .val (.long v49), .second, .unset, .unset] [(.long (v57 + v49))]) (fun t k => XS.ladd X0.here hx rfl (hb hby at_60) rfl k) ?_
      generalize hv60 : (v57 + v49) = v60
      have f60 : (v60.toInt - (v57.toInt + v49.toInt)) % 18446744073709551616 = 0 := by rw [← hv60]; exact c_ladd v57 v49
      have r60 := rng64 v60
      refine own_go (mkF m 64 #[.val (.long q1), .second, .val (.long q2), .second, .val (.int q3), .val (.long v38), .second, .unset, .unset, .val (.int v3), .val (.long v49), .second, .unset, .unset] [(.long (9223372036854775807 : Int64)), (.long v60)]) (fun t k => X0.ldc2Long hx hown (mvT hZ (hw _ (List.mem_of_getElem? (i := 0) rfl))) (g := (mkF m 61 #[.val (.long q1), .second, .val (.long q2), .second, .val (.int q3), .val (.long v38), .second, .unset, .unset, .val (.int v3), .val (.long v49), .second, .unset, .unset] [(.long v60)])) rfl (hb hby at_61) _ k) ?_
      refine own_go (mkF m 65 #[.val (.long q1), .second, .val (.long q2), .second, .val (.int q3), .val (.long v38), .second, .unset, .unset, .val (.int v3), .val (.long v49), .second, .unset, .unset] [(.long (v60 &&& (9223372036854775807 : Int64)))]) (fun t k => XS.land X0.here hx rfl (hb hby at_64) rfl k) ?_
      generalize hv64 : (v60 &&& (9223372036854775807 : Int64)) = v64
      have f64 : v64.toInt = v60.toInt % 9223372036854775808 := by rw [← hv64]; exact c_maskL v60 (9223372036854775807 : Int64) 63 (by decide) (by decide)
      have r64 := rng64 v64
      refine own_go (mkF m 67 #[.val (.long q1), .second, .val (.long q2), .second, .val (.int q3), .val (.long v38), .second, .val (.long v64), .second, .val (.int v3), .val (.long v49), .second, .unset, .unset] []) (fun t k => XS.lstore X0.here hx rfl (hb hby at_65) rfl (l' := #[.val (.long q1), .second, .val (.long q2), .second, .val (.int q3), .val (.long v38), .second, .val (.long v64), .second, .val (.int v3), .val (.long v49), .second, .unset, .unset]) rfl k) ?_
      refine own_go (mkF m 107 #[.val (.long q1), .second, .val (.long q2), .second, .val (.int q3), .val (.long v38), .second, .val (.long v64), .second, .val (.int v3), .val (.long v49), .second, .unset, .unset] []) (fun t k => XS.goto X0.here hx rfl (pc0 := 67) (pc' := 107) rfl (hb hby at_67) (by decide) (by decide) k) ?_
      refine own_go (mkF m 109 #[.val (.long q1), .second, .val (.long q2), .second, .val (.int q3), .val (.long v38), .second, .val (.long v64), .second, .val (.int v3), .val (.long v49), .second, .unset, .unset] [(.long v38)]) (fun t k => XS.lload X0.here hx rfl (hb hby at_107) rfl k) ?_
      refine own_go (mkF m 111 #[.val (.long q1), .second, .val (.long q2), .second, .val (.int q3), .val (.long v38), .second, .val (.long v64), .second, .val (.int v3), .val (.long v49), .second, .unset, .unset] [(.long v64), (.long v38)]) (fun t k => XS.lload X0.here hx rfl (hb hby at_109) rfl k) ?_
      refine own_go (mkF m 112 #[.val (.long q1), .second, .val (.long q2), .second, .val (.int q3), .val (.long v38), .second, .val (.long v64), .second, .val (.int v3), .val (.long v49), .second, .unset, .unset] [(.long (v38 + v64))]) (fun t k => XS.ladd X0.here hx rfl (hb hby at_111) rfl k) ?_
      generalize hv111 : (v38 + v64) = v111
      have f111 : (v111.toInt - (v38.toInt + v64.toInt)) % 18446744073709551616 = 0 := by rw [← hv111]; exact c_ladd v38 v64
      have r111 := rng64 v111
      refine own_go (mkF m 114 #[.val (.long q1), .second, .val (.long q2), .second, .val (.int q3), .val (.long v38), .second, .val (.long v64), .second, .val (.int v3), .val (.long v111), .second, .unset, .unset] []) (fun t k => XS.lstore X0.here hx rfl (hb hby at_112) rfl (l' := #[.val (.long q1), .second, .val (.long q2), .second, .val (.int q3), .val (.long v38), .second, .val (.long v64), .second, .val (.int v3), .val (.long v111), .second, .unset, .unset]) rfl k) ?_
      refine own_go (mkF m 116 #[.val (.long q1), .second, .val (.long q2), .second, .val (.int q3), .val (.long v38), .second, .val (.long v64), .second, .val (.int v3), .val (.long v111), .second, .unset, .unset] [(.long v111)]) (fun t k => XS.lload X0.here hx rfl (hb hby at_114) rfl k) ?_
      refine own_go (mkF m 117 #[.val (.long q1), .second, .val (.long q2), .second, .val (.int q3), .val (.long v38), .second, .val (.long v64), .second, .val (.int v3), .val (.long v111), .second, .unset, .unset] [(.long (0 : Int64)), (.long v111)]) (fun t k => XS.lconst X0.here hx rfl (hb hby at_116) k) ?_
      refine own_go (mkF m 118 #[.val (.long q1), .second, .val (.long q2), .second, .val (.int q3), .val (.long v38), .second, .val (.long v64), .second, .val (.int v3), .val (.long v111), .second, .unset, .unset] [(.int (lcmpW v111 (0 : Int64)))]) (fun t k => XS.lcmp X0.here hx rfl (hb hby at_117) rfl k) ?_
      by_cases c118 : 0 ≤ v111.toInt
      · skip
        refine own_go (mkF m 127 #[.val (.long q1), .second, .val (.long q2), .second, .val (.int q3), .val (.long v38), .second, .val (.long v64), .second, .val (.int v3), .val (.long v111), .second, .unset, .unset] []) (fun t k => XS.ifYes X0.here hx rfl (pc0 := 118) (pc' := 127) rfl (hb hby at_118) rfl (own_lcT (cd := .ge) c118) (by decide) (by decide) k) ?_
        refine own_go (mkF m 129 #[.val (.long q1), .second, .val (.long q2), .second, .val (.int q3), .val (.long v38), .second, .val (.long v64), .second, .val (.int v3), .val (.long v111), .second, .unset, .unset] [(.long v111)]) (fun t k => XS.lload X0.here hx rfl (hb hby at_127) rfl k) ?_
        refine own_go (mkF m 131 #[.val (.long q1), .second, .val (.long q2), .second, .val (.int q3), .val (.long v38), .second, .val (.long v64), .second, .val (.int v3), .val (.long v111), .second, .val (.long v111), .second] []) (fun t k => XS.lstore X0.here hx rfl (hb hby at_129) rfl (l' := #[.val (.long q1), .second, .val (.long q2), .second, .val (.int q3), .val (.long v38), .second, .val (.long v64), .second, .val (.int v3), .val (.long v111), .second, .val (.long v111), .second]) rfl k) ?_
        refine own_go (mkF m 133 #[.val (.long q1), .second, .val (.long q2), .second, .val (.int q3), .val (.long v38), .second, .val (.long v64), .second, .val (.int v3), .val (.long v111), .second, .val (.long v111), .second] [(.long v38)]) (fun t k => XS.lload X0.here hx rfl (hb hby at_131) rfl k) ?_
        refine own_go (mkF m 135 #[.val (.long q1), .second, .val (.long q2), .second, .val (.int q3), .val (.long v38), .second, .val (.long v64), .second, .val (.int v3), .val (.long v111), .second, .val (.long v111), .second] [(.long v64), (.long v38)]) (fun t k => XS.lload X0.here hx rfl (hb hby at_133) rfl k) ?_
        refine own_callS X0 hx hZ (y := (⟨"com/example/starbyte/starbyte/hdu/NestedArrays", "sum", "(JJ)J"⟩ : MethodName)) hown (hw _ (List.mem_of_getElem? (i := 1) rfl)) (hw _ (List.mem_of_getElem? (i := 2) rfl)) (hw _ (List.mem_of_getElem? (i := 3) rfl)) (hw _ (List.mem_of_getElem? (i := 4) rfl)) (by decide) e0 (rm1 l Z a0 hw [] v38 v64 h0 n0 Z0) 0 (by decide) (by decide) (by decide) (by decide) (g := (mkF m 135 #[.val (.long q1), .second, .val (.long q2), .second, .val (.int q3), .val (.long v38), .second, .val (.long v64), .second, .val (.int v3), .val (.long v111), .second, .val (.long v111), .second] [(.long v64), (.long v38)])) rfl (by rw [hml]; rfl) [(.long v38), (.long v64)] [] (lenOf pd0_0 rfl) rfl rfl (by show 2 * 0 + _ ≤ _; exact Nat.le_of_eq rfl) (hb hby at_135) ?_
        intro rv135 T135 h135 L135 X135 e135 hQ135
        obtain ⟨⟨r135, rfl, hr135⟩, NQ135, eq135⟩ := hQ135
        rw [eq135] at e135
        have rr135 := rng64 r135
        have N135 := Fr.app N0 NQ135
        show own_Ends p e below s room_1.cells room_1.slots (Q0 Z q1 q2 q3 h0 n0) T135 (mkF m 138 #[.val (.long q1), .second, .val (.long q2), .second, .val (.int q3), .val (.long v38), .second, .val (.long v64), .second, .val (.int v3), .val (.long v111), .second, .val (.long v111), .second] [(.long r135)])
        refine own_go (mkF m 140 #[.val (.long q1), .second, .val (.long q2), .second, .val (.int q3), .val (.long v38), .second, .val (.long v64), .second, .val (.int v3), .val (.long v111), .second, .val (.long v111), .second] [(.long v111), (.long r135)]) (fun t k => XS.lload X135.here hx rfl (hb hby at_138) rfl k) ?_
        refine own_go (mkF m 141 #[.val (.long q1), .second, .val (.long q2), .second, .val (.int q3), .val (.long v38), .second, .val (.long v64), .second, .val (.int v3), .val (.long v111), .second, .val (.long v111), .second] [(.int (lcmpW r135 v111))]) (fun t k => XS.lcmp X135.here hx rfl (hb hby at_140) rfl k) ?_
        by_cases c141 : r135.toInt = v111.toInt
        · skip
          refine own_go (mkF m 144 #[.val (.long q1), .second, .val (.long q2), .second, .val (.int q3), .val (.long v38), .second, .val (.long v64), .second, .val (.int v3), .val (.long v111), .second, .val (.long v111), .second] []) (fun t k => XS.ifNo X135.here hx rfl (hb hby at_141) rfl (own_lcF (cd := .ne) (fun q => q c141)) k) ?_
          refine own_go (mkF m 145 #[.val (.long q1), .second, .val (.long q2), .second, .val (.int q3), .val (.long v38), .second, .val (.long v64), .second, .val (.int v3), .val (.long v111), .second, .val (.long v111), .second] [(.int (1 : Int32))]) (fun t k => XS.iconst X135.here hx rfl (hb hby at_144) k) ?_
          refine own_go (mkF m 149 #[.val (.long q1), .second, .val (.long q2), .second, .val (.int q3), .val (.long v38), .second, .val (.long v64), .second, .val (.int v3), .val (.long v111), .second, .val (.long v111), .second] [(.int (1 : Int32))]) (fun t k => XS.goto X135.here hx rfl (pc0 := 145) (pc' := 149) rfl (hb hby at_145) (by decide) (by decide) k) ?_
          refine own_retI X135 hx hlk hret (by simp) rfl (hb hby at_149) (by decide) (by decide) ?_
          rw [e135]
          exact ⟨rfl, N135⟩
        · skip
          refine own_go (mkF m 148 #[.val (.long q1), .second, .val (.long q2), .second, .val (.int q3), .val (.long v38), .second, .val (.long v64), .second, .val (.int v3), .val (.long v111), .second, .val (.long v111), .second] []) (fun t k => XS.ifYes X135.here hx rfl (pc0 := 141) (pc' := 148) rfl (hb hby at_141) rfl (own_lcT (cd := .ne) c141) (by decide) (by decide) k) ?_
          refine own_go (mkF m 149 #[.val (.long q1), .second, .val (.long q2), .second, .val (.int q3), .val (.long v38), .second, .val (.long v64), .second, .val (.int v3), .val (.long v111), .second, .val (.long v111), .second] [(.int (0 : Int32))]) (fun t k => XS.iconst X135.here hx rfl (hb hby at_148) k) ?_
          refine own_retI X135 hx hlk hret (by simp) rfl (hb hby at_149) (by decide) (by decide) ?_
          rw [e135]
          exfalso
          omega
      · skip
        refine own_go (mkF m 121 #[.val (.long q1), .second, .val (.long q2), .second, .val (.int q3), .val (.long v38), .second, .val (.long v64), .second, .val (.int v3), .val (.long v111), .second, .unset, .unset] []) (fun t k => XS.ifNo X0.here hx rfl (hb hby at_118) rfl (own_lcF (cd := .ge) c118) k) ?_
        refine own_go (mkF m 124 #[.val (.long q1), .second, .val (.long q2), .second, .val (.int q3), .val (.long v38), .second, .val (.long v64), .second, .val (.int v3), .val (.long v111), .second, .unset, .unset] [(.long (9223372036854775807 : Int64))]) (fun t k => X0.ldc2Long hx hown (mvT hZ (hw _ (List.mem_of_getElem? (i := 0) rfl))) (g := (mkF m 121 #[.val (.long q1), .second, .val (.long q2), .second, .val (.int q3), .val (.long v38), .second, .val (.long v64), .second, .val (.int v3), .val (.long v111), .second, .unset, .unset] [])) rfl (hb hby at_121) _ k) ?_
        refine own_go (mkF m 129 #[.val (.long q1), .second, .val (.long q2), .second, .val (.int q3), .val (.long v38), .second, .val (.long v64), .second, .val (.int v3), .val (.long v111), .second, .unset, .unset] [(.long (9223372036854775807 : Int64))]) (fun t k => XS.goto X0.here hx rfl (pc0 := 124) (pc' := 129) rfl (hb hby at_124) (by decide) (by decide) k) ?_
        refine own_go (mkF m 131 #[.val (.long q1), .second, .val (.long q2), .second, .val (.int q3), .val (.long v38), .second, .val (.long v64), .second, .val (.int v3), .val (.long v111), .second, .val (.long (9223372036854775807 : Int64)), .second] []) (fun t k => XS.lstore X0.here hx rfl (hb hby at_129) rfl (l' := #[.val (.long q1), .second, .val (.long q2), .second, .val (.int q3), .val (.long v38), .second, .val (.long v64), .second, .val (.int v3), .val (.long v111), .second, .val (.long (9223372036854775807 : Int64)), .second]) rfl k) ?_
        refine own_go (mkF m 133 #[.val (.long q1), .second, .val (.long q2), .second, .val (.int q3), .val (.long v38), .second, .val (.long v64), .second, .val (.int v3), .val (.long v111), .second, .val (.long (9223372036854775807 : Int64)), .second] [(.long v38)]) (fun t k => XS.lload X0.here hx rfl (hb hby at_131) rfl k) ?_
        refine own_go (mkF m 135 #[.val (.long q1), .second, .val (.long q2), .second, .val (.int q3), .val (.long v38), .second, .val (.long v64), .second, .val (.int v3), .val (.long v111), .second, .val (.long (9223372036854775807 : Int64)), .second] [(.long v64), (.long v38)]) (fun t k => XS.lload X0.here hx rfl (hb hby at_133) rfl k) ?_
        refine own_callS X0 hx hZ (y := (⟨"com/example/starbyte/starbyte/hdu/NestedArrays", "sum", "(JJ)J"⟩ : MethodName)) hown (hw _ (List.mem_of_getElem? (i := 1) rfl)) (hw _ (List.mem_of_getElem? (i := 2) rfl)) (hw _ (List.mem_of_getElem? (i := 3) rfl)) (hw _ (List.mem_of_getElem? (i := 4) rfl)) (by decide) e0 (rm1 l Z a0 hw [] v38 v64 h0 n0 Z0) 0 (by decide) (by decide) (by decide) (by decide) (g := (mkF m 135 #[.val (.long q1), .second, .val (.long q2), .second, .val (.int q3), .val (.long v38), .second, .val (.long v64), .second, .val (.int v3), .val (.long v111), .second, .val (.long (9223372036854775807 : Int64)), .second] [(.long v64), (.long v38)])) rfl (by rw [hml]; rfl) [(.long v38), (.long v64)] [] (lenOf pd0_0 rfl) rfl rfl (by show 2 * 0 + _ ≤ _; exact Nat.le_of_eq rfl) (hb hby at_135) ?_
        intro rv135 T135 h135 L135 X135 e135 hQ135
        obtain ⟨⟨r135, rfl, hr135⟩, NQ135, eq135⟩ := hQ135
        rw [eq135] at e135
        have rr135 := rng64 r135
        have N135 := Fr.app N0 NQ135
        show own_Ends p e below s room_1.cells room_1.slots (Q0 Z q1 q2 q3 h0 n0) T135 (mkF m 138 #[.val (.long q1), .second, .val (.long q2), .second, .val (.int q3), .val (.long v38), .second, .val (.long v64), .second, .val (.int v3), .val (.long v111), .second, .val (.long (9223372036854775807 : Int64)), .second] [(.long r135)])
        refine own_go (mkF m 140 #[.val (.long q1), .second, .val (.long q2), .second, .val (.int q3), .val (.long v38), .second, .val (.long v64), .second, .val (.int v3), .val (.long v111), .second, .val (.long (9223372036854775807 : Int64)), .second] [(.long (9223372036854775807 : Int64)), (.long r135)]) (fun t k => XS.lload X135.here hx rfl (hb hby at_138) rfl k) ?_
        refine own_go (mkF m 141 #[.val (.long q1), .second, .val (.long q2), .second, .val (.int q3), .val (.long v38), .second, .val (.long v64), .second, .val (.int v3), .val (.long v111), .second, .val (.long (9223372036854775807 : Int64)), .second] [(.int (lcmpW r135 (9223372036854775807 : Int64)))]) (fun t k => XS.lcmp X135.here hx rfl (hb hby at_140) rfl k) ?_
        by_cases c141 : r135.toInt = 9223372036854775807
        · skip
          refine own_go (mkF m 144 #[.val (.long q1), .second, .val (.long q2), .second, .val (.int q3), .val (.long v38), .second, .val (.long v64), .second, .val (.int v3), .val (.long v111), .second, .val (.long (9223372036854775807 : Int64)), .second] []) (fun t k => XS.ifNo X135.here hx rfl (hb hby at_141) rfl (own_lcF (cd := .ne) (fun q => q c141)) k) ?_
          refine own_go (mkF m 145 #[.val (.long q1), .second, .val (.long q2), .second, .val (.int q3), .val (.long v38), .second, .val (.long v64), .second, .val (.int v3), .val (.long v111), .second, .val (.long (9223372036854775807 : Int64)), .second] [(.int (1 : Int32))]) (fun t k => XS.iconst X135.here hx rfl (hb hby at_144) k) ?_
          refine own_go (mkF m 149 #[.val (.long q1), .second, .val (.long q2), .second, .val (.int q3), .val (.long v38), .second, .val (.long v64), .second, .val (.int v3), .val (.long v111), .second, .val (.long (9223372036854775807 : Int64)), .second] [(.int (1 : Int32))]) (fun t k => XS.goto X135.here hx rfl (pc0 := 145) (pc' := 149) rfl (hb hby at_145) (by decide) (by decide) k) ?_
          refine own_retI X135 hx hlk hret (by simp) rfl (hb hby at_149) (by decide) (by decide) ?_
          rw [e135]
          exact ⟨rfl, N135⟩
        · skip
          refine own_go (mkF m 148 #[.val (.long q1), .second, .val (.long q2), .second, .val (.int q3), .val (.long v38), .second, .val (.long v64), .second, .val (.int v3), .val (.long v111), .second, .val (.long (9223372036854775807 : Int64)), .second] []) (fun t k => XS.ifYes X135.here hx rfl (pc0 := 141) (pc' := 148) rfl (hb hby at_141) rfl (own_lcT (cd := .ne) c141) (by decide) (by decide) k) ?_
          refine own_go (mkF m 149 #[.val (.long q1), .second, .val (.long q2), .second, .val (.int q3), .val (.long v38), .second, .val (.long v64), .second, .val (.int v3), .val (.long v111), .second, .val (.long (9223372036854775807 : Int64)), .second] [(.int (0 : Int32))]) (fun t k => XS.iconst X135.here hx rfl (hb hby at_148) k) ?_
          refine own_retI X135 hx hlk hret (by simp) rfl (hb hby at_149) (by decide) (by decide) ?_
          rw [e135]
          exfalso
          omega
    · skip
      refine own_go (mkF m 70 #[.val (.long q1), .second, .val (.long q2), .second, .val (.int q3), .unset, .unset, .unset, .unset, .val (.int v3), .unset, .unset, .unset, .unset] []) (fun t k => XS.icmpYes X0.here hx rfl (pc0 := 31) (pc' := 70) rfl (hb hby at_31) rfl (own_icT (cd := .ne) c31) (by decide) (by decide) k) ?_
      refine own_go (mkF m 72 #[.val (.long q1), .second, .val (.long q2), .second, .val (.int q3), .unset, .unset, .unset, .unset, .val (.int v3), .unset, .unset, .unset, .unset] [(.int v3)]) (fun t k => XS.iload X0.here hx rfl (hb hby at_70) rfl k) ?_
      refine own_go (mkF m 73 #[.val (.long q1), .second, .val (.long q2), .second, .val (.int q3), .unset, .unset, .unset, .unset, .val (.int v3), .unset, .unset, .unset, .unset] [(.int (2 : Int32)), (.int v3)]) (fun t k => XS.iconst X0.here hx rfl (hb hby at_72) k) ?_
      by_cases c73 : v3.toInt = 2
      · skip
        refine own_go (mkF m 76 #[.val (.long q1), .second, .val (.long q2), .second, .val (.int q3), .unset, .unset, .unset, .unset, .val (.int v3), .unset, .unset, .unset, .unset] []) (fun t k => XS.icmpNo X0.here hx rfl (hb hby at_73) rfl (own_icF (cd := .ne) (fun q => q c73)) k) ?_
        refine own_go (mkF m 77 #[.val (.long q1), .second, .val (.long q2), .second, .val (.int q3), .unset, .unset, .unset, .unset, .val (.int v3), .unset, .unset, .unset, .unset] [(.long q1)]) (fun t k => XS.lloadN X0.here hx rfl (hb hby at_76) rfl k) ?_
        refine own_go (mkF m 80 #[.val (.long q1), .second, .val (.long q2), .second, .val (.int q3), .unset, .unset, .unset, .unset, .val (.int v3), .unset, .unset, .unset, .unset] [(.long (65535 : Int64)), (.long q1)]) (fun t k => X0.ldc2Long hx hown (mvT hZ (hw _ (List.mem_of_getElem? (i := 9) rfl))) (g := (mkF m 77 #[.val (.long q1), .second, .val (.long q2), .second, .val (.int q3), .unset, .unset, .unset, .unset, .val (.int v3), .unset, .unset, .unset, .unset] [(.long q1)])) rfl (hb hby at_77) _ k) ?_
        refine own_go (mkF m 81 #[.val (.long q1), .second, .val (.long q2), .second, .val (.int q3), .unset, .unset, .unset, .unset, .val (.int v3), .unset, .unset, .unset, .unset] [(.long (q1 &&& (65535 : Int64)))]) (fun t k => XS.land X0.here hx rfl (hb hby at_80) rfl k) ?_
        generalize hv80 : (q1 &&& (65535 : Int64)) = v80
        have f80 : v80.toInt = q1.toInt % 65536 := by rw [← hv80]; exact c_maskL q1 (65535 : Int64) 16 (by decide) (by decide)
        have r80 := rng64 v80
        refine own_go (mkF m 83 #[.val (.long q1), .second, .val (.long q2), .second, .val (.int q3), .val (.long v80), .second, .unset, .unset, .val (.int v3), .unset, .unset, .unset, .unset] []) (fun t k => XS.lstore X0.here hx rfl (hb hby at_81) rfl (l' := #[.val (.long q1), .second, .val (.long q2), .second, .val (.int q3), .val (.long v80), .second, .unset, .unset, .val (.int v3), .unset, .unset, .unset, .unset]) rfl k) ?_
        refine own_go (mkF m 84 #[.val (.long q1), .second, .val (.long q2), .second, .val (.int q3), .val (.long v80), .second, .unset, .unset, .val (.int v3), .unset, .unset, .unset, .unset] [(.long q2)]) (fun t k => XS.lloadN X0.here hx rfl (hb hby at_83) rfl k) ?_
        refine own_go (mkF m 87 #[.val (.long q1), .second, .val (.long q2), .second, .val (.int q3), .val (.long v80), .second, .unset, .unset, .val (.int v3), .unset, .unset, .unset, .unset] [(.long (65535 : Int64)), (.long q2)]) (fun t k => X0.ldc2Long hx hown (mvT hZ (hw _ (List.mem_of_getElem? (i := 9) rfl))) (g := (mkF m 84 #[.val (.long q1), .second, .val (.long q2), .second, .val (.int q3), .val (.long v80), .second, .unset, .unset, .val (.int v3), .unset, .unset, .unset, .unset] [(.long q2)])) rfl (hb hby at_84) _ k) ?_
        refine own_go (mkF m 88 #[.val (.long q1), .second, .val (.long q2), .second, .val (.int q3), .val (.long v80), .second, .unset, .unset, .val (.int v3), .unset, .unset, .unset, .unset] [(.long (q2 &&& (65535 : Int64)))]) (fun t k => XS.land X0.here hx rfl (hb hby at_87) rfl k) ?_
        generalize hv87 : (q2 &&& (65535 : Int64)) = v87
        have f87 : v87.toInt = q2.toInt % 65536 := by rw [← hv87]; exact c_maskL q2 (65535 : Int64) 16 (by decide) (by decide)
        have r87 := rng64 v87
        refine own_go (mkF m 90 #[.val (.long q1), .second, .val (.long q2), .second, .val (.int q3), .val (.long v80), .second, .val (.long v87), .second, .val (.int v3), .unset, .unset, .unset, .unset] []) (fun t k => XS.lstore X0.here hx rfl (hb hby at_88) rfl (l' := #[.val (.long q1), .second, .val (.long q2), .second, .val (.int q3), .val (.long v80), .second, .val (.long v87), .second, .val (.int v3), .unset, .unset, .unset, .unset]) rfl k) ?_
        refine own_go (mkF m 107 #[.val (.long q1), .second, .val (.long q2), .second, .val (.int q3), .val (.long v80), .second, .val (.long v87), .second, .val (.int v3), .unset, .unset, .unset, .unset] []) (fun t k => XS.goto X0.here hx rfl (pc0 := 90) (pc' := 107) rfl (hb hby at_90) (by decide) (by decide) k) ?_
        refine own_go (mkF m 109 #[.val (.long q1), .second, .val (.long q2), .second, .val (.int q3), .val (.long v80), .second, .val (.long v87), .second, .val (.int v3), .unset, .unset, .unset, .unset] [(.long v80)]) (fun t k => XS.lload X0.here hx rfl (hb hby at_107) rfl k) ?_
        refine own_go (mkF m 111 #[.val (.long q1), .second, .val (.long q2), .second, .val (.int q3), .val (.long v80), .second, .val (.long v87), .second, .val (.int v3), .unset, .unset, .unset, .unset] [(.long v87), (.long v80)]) (fun t k => XS.lload X0.here hx rfl (hb hby at_109) rfl k) ?_
        refine own_go (mkF m 112 #[.val (.long q1), .second, .val (.long q2), .second, .val (.int q3), .val (.long v80), .second, .val (.long v87), .second, .val (.int v3), .unset, .unset, .unset, .unset] [(.long (v80 + v87))]) (fun t k => XS.ladd X0.here hx rfl (hb hby at_111) rfl k) ?_
        generalize hv111 : (v80 + v87) = v111
        have f111 : (v111.toInt - (v80.toInt + v87.toInt)) % 18446744073709551616 = 0 := by rw [← hv111]; exact c_ladd v80 v87
        have r111 := rng64 v111
        refine own_go (mkF m 114 #[.val (.long q1), .second, .val (.long q2), .second, .val (.int q3), .val (.long v80), .second, .val (.long v87), .second, .val (.int v3), .val (.long v111), .second, .unset, .unset] []) (fun t k => XS.lstore X0.here hx rfl (hb hby at_112) rfl (l' := #[.val (.long q1), .second, .val (.long q2), .second, .val (.int q3), .val (.long v80), .second, .val (.long v87), .second, .val (.int v3), .val (.long v111), .second, .unset, .unset]) rfl k) ?_
        refine own_go (mkF m 116 #[.val (.long q1), .second, .val (.long q2), .second, .val (.int q3), .val (.long v80), .second, .val (.long v87), .second, .val (.int v3), .val (.long v111), .second, .unset, .unset] [(.long v111)]) (fun t k => XS.lload X0.here hx rfl (hb hby at_114) rfl k) ?_
        refine own_go (mkF m 117 #[.val (.long q1), .second, .val (.long q2), .second, .val (.int q3), .val (.long v80), .second, .val (.long v87), .second, .val (.int v3), .val (.long v111), .second, .unset, .unset] [(.long (0 : Int64)), (.long v111)]) (fun t k => XS.lconst X0.here hx rfl (hb hby at_116) k) ?_
        refine own_go (mkF m 118 #[.val (.long q1), .second, .val (.long q2), .second, .val (.int q3), .val (.long v80), .second, .val (.long v87), .second, .val (.int v3), .val (.long v111), .second, .unset, .unset] [(.int (lcmpW v111 (0 : Int64)))]) (fun t k => XS.lcmp X0.here hx rfl (hb hby at_117) rfl k) ?_
        by_cases c118 : 0 ≤ v111.toInt
        · skip
          refine own_go (mkF m 127 #[.val (.long q1), .second, .val (.long q2), .second, .val (.int q3), .val (.long v80), .second, .val (.long v87), .second, .val (.int v3), .val (.long v111), .second, .unset, .unset] []) (fun t k => XS.ifYes X0.here hx rfl (pc0 := 118) (pc' := 127) rfl (hb hby at_118) rfl (own_lcT (cd := .ge) c118) (by decide) (by decide) k) ?_
          refine own_go (mkF m 129 #[.val (.long q1), .second, .val (.long q2), .second, .val (.int q3), .val (.long v80), .second, .val (.long v87), .second, .val (.int v3), .val (.long v111), .second, .unset, .unset] [(.long v111)]) (fun t k => XS.lload X0.here hx rfl (hb hby at_127) rfl k) ?_
          refine own_go (mkF m 131 #[.val (.long q1), .second, .val (.long q2), .second, .val (.int q3), .val (.long v80), .second, .val (.long v87), .second, .val (.int v3), .val (.long v111), .second, .val (.long v111), .second] []) (fun t k => XS.lstore X0.here hx rfl (hb hby at_129) rfl (l' := #[.val (.long q1), .second, .val (.long q2), .second, .val (.int q3), .val (.long v80), .second, .val (.long v87), .second, .val (.int v3), .val (.long v111), .second, .val (.long v111), .second]) rfl k) ?_
          refine own_go (mkF m 133 #[.val (.long q1), .second, .val (.long q2), .second, .val (.int q3), .val (.long v80), .second, .val (.long v87), .second, .val (.int v3), .val (.long v111), .second, .val (.long v111), .second] [(.long v80)]) (fun t k => XS.lload X0.here hx rfl (hb hby at_131) rfl k) ?_
          refine own_go (mkF m 135 #[.val (.long q1), .second, .val (.long q2), .second, .val (.int q3), .val (.long v80), .second, .val (.long v87), .second, .val (.int v3), .val (.long v111), .second, .val (.long v111), .second] [(.long v87), (.long v80)]) (fun t k => XS.lload X0.here hx rfl (hb hby at_133) rfl k) ?_
          refine own_callS X0 hx hZ (y := (⟨"com/example/starbyte/starbyte/hdu/NestedArrays", "sum", "(JJ)J"⟩ : MethodName)) hown (hw _ (List.mem_of_getElem? (i := 1) rfl)) (hw _ (List.mem_of_getElem? (i := 2) rfl)) (hw _ (List.mem_of_getElem? (i := 3) rfl)) (hw _ (List.mem_of_getElem? (i := 4) rfl)) (by decide) e0 (rm1 l Z a0 hw [] v80 v87 h0 n0 Z0) 0 (by decide) (by decide) (by decide) (by decide) (g := (mkF m 135 #[.val (.long q1), .second, .val (.long q2), .second, .val (.int q3), .val (.long v80), .second, .val (.long v87), .second, .val (.int v3), .val (.long v111), .second, .val (.long v111), .second] [(.long v87), (.long v80)])) rfl (by rw [hml]; rfl) [(.long v80), (.long v87)] [] (lenOf pd0_0 rfl) rfl rfl (by show 2 * 0 + _ ≤ _; exact Nat.le_of_eq rfl) (hb hby at_135) ?_
          intro rv135 T135 h135 L135 X135 e135 hQ135
          obtain ⟨⟨r135, rfl, hr135⟩, NQ135, eq135⟩ := hQ135
          rw [eq135] at e135
          have rr135 := rng64 r135
          have N135 := Fr.app N0 NQ135
          show own_Ends p e below s room_1.cells room_1.slots (Q0 Z q1 q2 q3 h0 n0) T135 (mkF m 138 #[.val (.long q1), .second, .val (.long q2), .second, .val (.int q3), .val (.long v80), .second, .val (.long v87), .second, .val (.int v3), .val (.long v111), .second, .val (.long v111), .second] [(.long r135)])
          refine own_go (mkF m 140 #[.val (.long q1), .second, .val (.long q2), .second, .val (.int q3), .val (.long v80), .second, .val (.long v87), .second, .val (.int v3), .val (.long v111), .second, .val (.long v111), .second] [(.long v111), (.long r135)]) (fun t k => XS.lload X135.here hx rfl (hb hby at_138) rfl k) ?_
          refine own_go (mkF m 141 #[.val (.long q1), .second, .val (.long q2), .second, .val (.int q3), .val (.long v80), .second, .val (.long v87), .second, .val (.int v3), .val (.long v111), .second, .val (.long v111), .second] [(.int (lcmpW r135 v111))]) (fun t k => XS.lcmp X135.here hx rfl (hb hby at_140) rfl k) ?_
          by_cases c141 : r135.toInt = v111.toInt
          · skip
            refine own_go (mkF m 144 #[.val (.long q1), .second, .val (.long q2), .second, .val (.int q3), .val (.long v80), .second, .val (.long v87), .second, .val (.int v3), .val (.long v111), .second, .val (.long v111), .second] []) (fun t k => XS.ifNo X135.here hx rfl (hb hby at_141) rfl (own_lcF (cd := .ne) (fun q => q c141)) k) ?_
            refine own_go (mkF m 145 #[.val (.long q1), .second, .val (.long q2), .second, .val (.int q3), .val (.long v80), .second, .val (.long v87), .second, .val (.int v3), .val (.long v111), .second, .val (.long v111), .second] [(.int (1 : Int32))]) (fun t k => XS.iconst X135.here hx rfl (hb hby at_144) k) ?_
            refine own_go (mkF m 149 #[.val (.long q1), .second, .val (.long q2), .second, .val (.int q3), .val (.long v80), .second, .val (.long v87), .second, .val (.int v3), .val (.long v111), .second, .val (.long v111), .second] [(.int (1 : Int32))]) (fun t k => XS.goto X135.here hx rfl (pc0 := 145) (pc' := 149) rfl (hb hby at_145) (by decide) (by decide) k) ?_
            refine own_retI X135 hx hlk hret (by simp) rfl (hb hby at_149) (by decide) (by decide) ?_
            rw [e135]
            exact ⟨rfl, N135⟩
          · skip
            refine own_go (mkF m 148 #[.val (.long q1), .second, .val (.long q2), .second, .val (.int q3), .val (.long v80), .second, .val (.long v87), .second, .val (.int v3), .val (.long v111), .second, .val (.long v111), .second] []) (fun t k => XS.ifYes X135.here hx rfl (pc0 := 141) (pc' := 148) rfl (hb hby at_141) rfl (own_lcT (cd := .ne) c141) (by decide) (by decide) k) ?_
            refine own_go (mkF m 149 #[.val (.long q1), .second, .val (.long q2), .second, .val (.int q3), .val (.long v80), .second, .val (.long v87), .second, .val (.int v3), .val (.long v111), .second, .val (.long v111), .second] [(.int (0 : Int32))]) (fun t k => XS.iconst X135.here hx rfl (hb hby at_148) k) ?_
            refine own_retI X135 hx hlk hret (by simp) rfl (hb hby at_149) (by decide) (by decide) ?_
            rw [e135]
            exfalso
            omega
        · skip
          refine own_go (mkF m 121 #[.val (.long q1), .second, .val (.long q2), .second, .val (.int q3), .val (.long v80), .second, .val (.long v87), .second, .val (.int v3), .val (.long v111), .second, .unset, .unset] []) (fun t k => XS.ifNo X0.here hx rfl (hb hby at_118) rfl (own_lcF (cd := .ge) c118) k) ?_
          refine own_go (mkF m 124 #[.val (.long q1), .second, .val (.long q2), .second, .val (.int q3), .val (.long v80), .second, .val (.long v87), .second, .val (.int v3), .val (.long v111), .second, .unset, .unset] [(.long (9223372036854775807 : Int64))]) (fun t k => X0.ldc2Long hx hown (mvT hZ (hw _ (List.mem_of_getElem? (i := 0) rfl))) (g := (mkF m 121 #[.val (.long q1), .second, .val (.long q2), .second, .val (.int q3), .val (.long v80), .second, .val (.long v87), .second, .val (.int v3), .val (.long v111), .second, .unset, .unset] [])) rfl (hb hby at_121) _ k) ?_
          refine own_go (mkF m 129 #[.val (.long q1), .second, .val (.long q2), .second, .val (.int q3), .val (.long v80), .second, .val (.long v87), .second, .val (.int v3), .val (.long v111), .second, .unset, .unset] [(.long (9223372036854775807 : Int64))]) (fun t k => XS.goto X0.here hx rfl (pc0 := 124) (pc' := 129) rfl (hb hby at_124) (by decide) (by decide) k) ?_
          refine own_go (mkF m 131 #[.val (.long q1), .second, .val (.long q2), .second, .val (.int q3), .val (.long v80), .second, .val (.long v87), .second, .val (.int v3), .val (.long v111), .second, .val (.long (9223372036854775807 : Int64)), .second] []) (fun t k => XS.lstore X0.here hx rfl (hb hby at_129) rfl (l' := #[.val (.long q1), .second, .val (.long q2), .second, .val (.int q3), .val (.long v80), .second, .val (.long v87), .second, .val (.int v3), .val (.long v111), .second, .val (.long (9223372036854775807 : Int64)), .second]) rfl k) ?_
          refine own_go (mkF m 133 #[.val (.long q1), .second, .val (.long q2), .second, .val (.int q3), .val (.long v80), .second, .val (.long v87), .second, .val (.int v3), .val (.long v111), .second, .val (.long (9223372036854775807 : Int64)), .second] [(.long v80)]) (fun t k => XS.lload X0.here hx rfl (hb hby at_131) rfl k) ?_
          refine own_go (mkF m 135 #[.val (.long q1), .second, .val (.long q2), .second, .val (.int q3), .val (.long v80), .second, .val (.long v87), .second, .val (.int v3), .val (.long v111), .second, .val (.long (9223372036854775807 : Int64)), .second] [(.long v87), (.long v80)]) (fun t k => XS.lload X0.here hx rfl (hb hby at_133) rfl k) ?_
          refine own_callS X0 hx hZ (y := (⟨"com/example/starbyte/starbyte/hdu/NestedArrays", "sum", "(JJ)J"⟩ : MethodName)) hown (hw _ (List.mem_of_getElem? (i := 1) rfl)) (hw _ (List.mem_of_getElem? (i := 2) rfl)) (hw _ (List.mem_of_getElem? (i := 3) rfl)) (hw _ (List.mem_of_getElem? (i := 4) rfl)) (by decide) e0 (rm1 l Z a0 hw [] v80 v87 h0 n0 Z0) 0 (by decide) (by decide) (by decide) (by decide) (g := (mkF m 135 #[.val (.long q1), .second, .val (.long q2), .second, .val (.int q3), .val (.long v80), .second, .val (.long v87), .second, .val (.int v3), .val (.long v111), .second, .val (.long (9223372036854775807 : Int64)), .second] [(.long v87), (.long v80)])) rfl (by rw [hml]; rfl) [(.long v80), (.long v87)] [] (lenOf pd0_0 rfl) rfl rfl (by show 2 * 0 + _ ≤ _; exact Nat.le_of_eq rfl) (hb hby at_135) ?_
          intro rv135 T135 h135 L135 X135 e135 hQ135
          obtain ⟨⟨r135, rfl, hr135⟩, NQ135, eq135⟩ := hQ135
          rw [eq135] at e135
          have rr135 := rng64 r135
          have N135 := Fr.app N0 NQ135
          show own_Ends p e below s room_1.cells room_1.slots (Q0 Z q1 q2 q3 h0 n0) T135 (mkF m 138 #[.val (.long q1), .second, .val (.long q2), .second, .val (.int q3), .val (.long v80), .second, .val (.long v87), .second, .val (.int v3), .val (.long v111), .second, .val (.long (9223372036854775807 : Int64)), .second] [(.long r135)])
          refine own_go (mkF m 140 #[.val (.long q1), .second, .val (.long q2), .second, .val (.int q3), .val (.long v80), .second, .val (.long v87), .second, .val (.int v3), .val (.long v111), .second, .val (.long (9223372036854775807 : Int64)), .second] [(.long (9223372036854775807 : Int64)), (.long r135)]) (fun t k => XS.lload X135.here hx rfl (hb hby at_138) rfl k) ?_
          refine own_go (mkF m 141 #[.val (.long q1), .second, .val (.long q2), .second, .val (.int q3), .val (.long v80), .second, .val (.long v87), .second, .val (.int v3), .val (.long v111), .second, .val (.long (9223372036854775807 : Int64)), .second] [(.int (lcmpW r135 (9223372036854775807 : Int64)))]) (fun t k => XS.lcmp X135.here hx rfl (hb hby at_140) rfl k) ?_
          by_cases c141 : r135.toInt = 9223372036854775807
          · skip
            refine own_go (mkF m 144 #[.val (.long q1), .second, .val (.long q2), .second, .val (.int q3), .val (.long v80), .second, .val (.long v87), .second, .val (.int v3), .val (.long v111), .second, .val (.long (9223372036854775807 : Int64)), .second] []) (fun t k => XS.ifNo X135.here hx rfl (hb hby at_141) rfl (own_lcF (cd := .ne) (fun q => q c141)) k) ?_
            refine own_go (mkF m 145 #[.val (.long q1), .second, .val (.long q2), .second, .val (.int q3), .val (.long v80), .second, .val (.long v87), .second, .val (.int v3), .val (.long v111), .second, .val (.long (9223372036854775807 : Int64)), .second] [(.int (1 : Int32))]) (fun t k => XS.iconst X135.here hx rfl (hb hby at_144) k) ?_
            refine own_go (mkF m 149 #[.val (.long q1), .second, .val (.long q2), .second, .val (.int q3), .val (.long v80), .second, .val (.long v87), .second, .val (.int v3), .val (.long v111), .second, .val (.long (9223372036854775807 : Int64)), .second] [(.int (1 : Int32))]) (fun t k => XS.goto X135.here hx rfl (pc0 := 145) (pc' := 149) rfl (hb hby at_145) (by decide) (by decide) k) ?_
            refine own_retI X135 hx hlk hret (by simp) rfl (hb hby at_149) (by decide) (by decide) ?_
            rw [e135]
            exact ⟨rfl, N135⟩
          · skip
            refine own_go (mkF m 148 #[.val (.long q1), .second, .val (.long q2), .second, .val (.int q3), .val (.long v80), .second, .val (.long v87), .second, .val (.int v3), .val (.long v111), .second, .val (.long (9223372036854775807 : Int64)), .second] []) (fun t k => XS.ifYes X135.here hx rfl (pc0 := 141) (pc' := 148) rfl (hb hby at_141) rfl (own_lcT (cd := .ne) c141) (by decide) (by decide) k) ?_
            refine own_go (mkF m 149 #[.val (.long q1), .second, .val (.long q2), .second, .val (.int q3), .val (.long v80), .second, .val (.long v87), .second, .val (.int v3), .val (.long v111), .second, .val (.long (9223372036854775807 : Int64)), .second] [(.int (0 : Int32))]) (fun t k => XS.iconst X135.here hx rfl (hb hby at_148) k) ?_
            refine own_retI X135 hx hlk hret (by simp) rfl (hb hby at_149) (by decide) (by decide) ?_
            rw [e135]
            exfalso
            omega
      · skip
        refine own_go (mkF m 93 #[.val (.long q1), .second, .val (.long q2), .second, .val (.int q3), .unset, .unset, .unset, .unset, .val (.int v3), .unset, .unset, .unset, .unset] []) (fun t k => XS.icmpYes X0.here hx rfl (pc0 := 73) (pc' := 93) rfl (hb hby at_73) rfl (own_icT (cd := .ne) c73) (by decide) (by decide) k) ?_
        refine own_go (mkF m 94 #[.val (.long q1), .second, .val (.long q2), .second, .val (.int q3), .unset, .unset, .unset, .unset, .val (.int v3), .unset, .unset, .unset, .unset] [(.long q1)]) (fun t k => XS.lloadN X0.here hx rfl (hb hby at_93) rfl k) ?_
        refine own_go (mkF m 97 #[.val (.long q1), .second, .val (.long q2), .second, .val (.int q3), .unset, .unset, .unset, .unset, .val (.int v3), .unset, .unset, .unset, .unset] [(.long (9223372036854775807 : Int64)), (.long q1)]) (fun t k => X0.ldc2Long hx hown (mvT hZ (hw _ (List.mem_of_getElem? (i := 0) rfl))) (g := (mkF m 94 #[.val (.long q1), .second, .val (.long q2), .second, .val (.int q3), .unset, .unset, .unset, .unset, .val (.int v3), .unset, .unset, .unset, .unset] [(.long q1)])) rfl (hb hby at_94) _ k) ?_
        refine own_go (mkF m 98 #[.val (.long q1), .second, .val (.long q2), .second, .val (.int q3), .unset, .unset, .unset, .unset, .val (.int v3), .unset, .unset, .unset, .unset] [(.long (q1 &&& (9223372036854775807 : Int64)))]) (fun t k => XS.land X0.here hx rfl (hb hby at_97) rfl k) ?_
        generalize hv97 : (q1 &&& (9223372036854775807 : Int64)) = v97
        have f97 : v97.toInt = q1.toInt % 9223372036854775808 := by rw [← hv97]; exact c_maskL q1 (9223372036854775807 : Int64) 63 (by decide) (by decide)
        have r97 := rng64 v97
        refine own_go (mkF m 100 #[.val (.long q1), .second, .val (.long q2), .second, .val (.int q3), .val (.long v97), .second, .unset, .unset, .val (.int v3), .unset, .unset, .unset, .unset] []) (fun t k => XS.lstore X0.here hx rfl (hb hby at_98) rfl (l' := #[.val (.long q1), .second, .val (.long q2), .second, .val (.int q3), .val (.long v97), .second, .unset, .unset, .val (.int v3), .unset, .unset, .unset, .unset]) rfl k) ?_
        refine own_go (mkF m 101 #[.val (.long q1), .second, .val (.long q2), .second, .val (.int q3), .val (.long v97), .second, .unset, .unset, .val (.int v3), .unset, .unset, .unset, .unset] [(.long q2)]) (fun t k => XS.lloadN X0.here hx rfl (hb hby at_100) rfl k) ?_
        refine own_go (mkF m 104 #[.val (.long q1), .second, .val (.long q2), .second, .val (.int q3), .val (.long v97), .second, .unset, .unset, .val (.int v3), .unset, .unset, .unset, .unset] [(.long (15 : Int64)), (.long q2)]) (fun t k => X0.ldc2Long hx hown (mvT hZ (hw _ (List.mem_of_getElem? (i := 6) rfl))) (g := (mkF m 101 #[.val (.long q1), .second, .val (.long q2), .second, .val (.int q3), .val (.long v97), .second, .unset, .unset, .val (.int v3), .unset, .unset, .unset, .unset] [(.long q2)])) rfl (hb hby at_101) _ k) ?_
        refine own_go (mkF m 105 #[.val (.long q1), .second, .val (.long q2), .second, .val (.int q3), .val (.long v97), .second, .unset, .unset, .val (.int v3), .unset, .unset, .unset, .unset] [(.long (q2 &&& (15 : Int64)))]) (fun t k => XS.land X0.here hx rfl (hb hby at_104) rfl k) ?_
        generalize hv104 : (q2 &&& (15 : Int64)) = v104
        have f104 : v104.toInt = q2.toInt % 16 := by rw [← hv104]; exact c_maskL q2 (15 : Int64) 4 (by decide) (by decide)
        have r104 := rng64 v104
        refine own_go (mkF m 107 #[.val (.long q1), .second, .val (.long q2), .second, .val (.int q3), .val (.long v97), .second, .val (.long v104), .second, .val (.int v3), .unset, .unset, .unset, .unset] []) (fun t k => XS.lstore X0.here hx rfl (hb hby at_105) rfl (l' := #[.val (.long q1), .second, .val (.long q2), .second, .val (.int q3), .val (.long v97), .second, .val (.long v104), .second, .val (.int v3), .unset, .unset, .unset, .unset]) rfl k) ?_
        refine own_go (mkF m 109 #[.val (.long q1), .second, .val (.long q2), .second, .val (.int q3), .val (.long v97), .second, .val (.long v104), .second, .val (.int v3), .unset, .unset, .unset, .unset] [(.long v97)]) (fun t k => XS.lload X0.here hx rfl (hb hby at_107) rfl k) ?_
        refine own_go (mkF m 111 #[.val (.long q1), .second, .val (.long q2), .second, .val (.int q3), .val (.long v97), .second, .val (.long v104), .second, .val (.int v3), .unset, .unset, .unset, .unset] [(.long v104), (.long v97)]) (fun t k => XS.lload X0.here hx rfl (hb hby at_109) rfl k) ?_
        refine own_go (mkF m 112 #[.val (.long q1), .second, .val (.long q2), .second, .val (.int q3), .val (.long v97), .second, .val (.long v104), .second, .val (.int v3), .unset, .unset, .unset, .unset] [(.long (v97 + v104))]) (fun t k => XS.ladd X0.here hx rfl (hb hby at_111) rfl k) ?_
        generalize hv111 : (v97 + v104) = v111
        have f111 : (v111.toInt - (v97.toInt + v104.toInt)) % 18446744073709551616 = 0 := by rw [← hv111]; exact c_ladd v97 v104
        have r111 := rng64 v111
        refine own_go (mkF m 114 #[.val (.long q1), .second, .val (.long q2), .second, .val (.int q3), .val (.long v97), .second, .val (.long v104), .second, .val (.int v3), .val (.long v111), .second, .unset, .unset] []) (fun t k => XS.lstore X0.here hx rfl (hb hby at_112) rfl (l' := #[.val (.long q1), .second, .val (.long q2), .second, .val (.int q3), .val (.long v97), .second, .val (.long v104), .second, .val (.int v3), .val (.long v111), .second, .unset, .unset]) rfl k) ?_
        refine own_go (mkF m 116 #[.val (.long q1), .second, .val (.long q2), .second, .val (.int q3), .val (.long v97), .second, .val (.long v104), .second, .val (.int v3), .val (.long v111), .second, .unset, .unset] [(.long v111)]) (fun t k => XS.lload X0.here hx rfl (hb hby at_114) rfl k) ?_
        refine own_go (mkF m 117 #[.val (.long q1), .second, .val (.long q2), .second, .val (.int q3), .val (.long v97), .second, .val (.long v104), .second, .val (.int v3), .val (.long v111), .second, .unset, .unset] [(.long (0 : Int64)), (.long v111)]) (fun t k => XS.lconst X0.here hx rfl (hb hby at_116) k) ?_
        refine own_go (mkF m 118 #[.val (.long q1), .second, .val (.long q2), .second, .val (.int q3), .val (.long v97), .second, .val (.long v104), .second, .val (.int v3), .val (.long v111), .second, .unset, .unset] [(.int (lcmpW v111 (0 : Int64)))]) (fun t k => XS.lcmp X0.here hx rfl (hb hby at_117) rfl k) ?_
        by_cases c118 : 0 ≤ v111.toInt
        · skip
          refine own_go (mkF m 127 #[.val (.long q1), .second, .val (.long q2), .second, .val (.int q3), .val (.long v97), .second, .val (.long v104), .second, .val (.int v3), .val (.long v111), .second, .unset, .unset] []) (fun t k => XS.ifYes X0.here hx rfl (pc0 := 118) (pc' := 127) rfl (hb hby at_118) rfl (own_lcT (cd := .ge) c118) (by decide) (by decide) k) ?_
          refine own_go (mkF m 129 #[.val (.long q1), .second, .val (.long q2), .second, .val (.int q3), .val (.long v97), .second, .val (.long v104), .second, .val (.int v3), .val (.long v111), .second, .unset, .unset] [(.long v111)]) (fun t k => XS.lload X0.here hx rfl (hb hby at_127) rfl k) ?_
          refine own_go (mkF m 131 #[.val (.long q1), .second, .val (.long q2), .second, .val (.int q3), .val (.long v97), .second, .val (.long v104), .second, .val (.int v3), .val (.long v111), .second, .val (.long v111), .second] []) (fun t k => XS.lstore X0.here hx rfl (hb hby at_129) rfl (l' := #[.val (.long q1), .second, .val (.long q2), .second, .val (.int q3), .val (.long v97), .second, .val (.long v104), .second, .val (.int v3), .val (.long v111), .second, .val (.long v111), .second]) rfl k) ?_
          refine own_go (mkF m 133 #[.val (.long q1), .second, .val (.long q2), .second, .val (.int q3), .val (.long v97), .second, .val (.long v104), .second, .val (.int v3), .val (.long v111), .second, .val (.long v111), .second] [(.long v97)]) (fun t k => XS.lload X0.here hx rfl (hb hby at_131) rfl k) ?_
          refine own_go (mkF m 135 #[.val (.long q1), .second, .val (.long q2), .second, .val (.int q3), .val (.long v97), .second, .val (.long v104), .second, .val (.int v3), .val (.long v111), .second, .val (.long v111), .second] [(.long v104), (.long v97)]) (fun t k => XS.lload X0.here hx rfl (hb hby at_133) rfl k) ?_
          refine own_callS X0 hx hZ (y := (⟨"com/example/starbyte/starbyte/hdu/NestedArrays", "sum", "(JJ)J"⟩ : MethodName)) hown (hw _ (List.mem_of_getElem? (i := 1) rfl)) (hw _ (List.mem_of_getElem? (i := 2) rfl)) (hw _ (List.mem_of_getElem? (i := 3) rfl)) (hw _ (List.mem_of_getElem? (i := 4) rfl)) (by decide) e0 (rm1 l Z a0 hw [] v97 v104 h0 n0 Z0) 0 (by decide) (by decide) (by decide) (by decide) (g := (mkF m 135 #[.val (.long q1), .second, .val (.long q2), .second, .val (.int q3), .val (.long v97), .second, .val (.long v104), .second, .val (.int v3), .val (.long v111), .second, .val (.long v111), .second] [(.long v104), (.long v97)])) rfl (by rw [hml]; rfl) [(.long v97), (.long v104)] [] (lenOf pd0_0 rfl) rfl rfl (by show 2 * 0 + _ ≤ _; exact Nat.le_of_eq rfl) (hb hby at_135) ?_
          intro rv135 T135 h135 L135 X135 e135 hQ135
          obtain ⟨⟨r135, rfl, hr135⟩, NQ135, eq135⟩ := hQ135
          rw [eq135] at e135
          have rr135 := rng64 r135
          have N135 := Fr.app N0 NQ135
          show own_Ends p e below s room_1.cells room_1.slots (Q0 Z q1 q2 q3 h0 n0) T135 (mkF m 138 #[.val (.long q1), .second, .val (.long q2), .second, .val (.int q3), .val (.long v97), .second, .val (.long v104), .second, .val (.int v3), .val (.long v111), .second, .val (.long v111), .second] [(.long r135)])
          refine own_go (mkF m 140 #[.val (.long q1), .second, .val (.long q2), .second, .val (.int q3), .val (.long v97), .second, .val (.long v104), .second, .val (.int v3), .val (.long v111), .second, .val (.long v111), .second] [(.long v111), (.long r135)]) (fun t k => XS.lload X135.here hx rfl (hb hby at_138) rfl k) ?_
          refine own_go (mkF m 141 #[.val (.long q1), .second, .val (.long q2), .second, .val (.int q3), .val (.long v97), .second, .val (.long v104), .second, .val (.int v3), .val (.long v111), .second, .val (.long v111), .second] [(.int (lcmpW r135 v111))]) (fun t k => XS.lcmp X135.here hx rfl (hb hby at_140) rfl k) ?_
          by_cases c141 : r135.toInt = v111.toInt
          · skip
            refine own_go (mkF m 144 #[.val (.long q1), .second, .val (.long q2), .second, .val (.int q3), .val (.long v97), .second, .val (.long v104), .second, .val (.int v3), .val (.long v111), .second, .val (.long v111), .second] []) (fun t k => XS.ifNo X135.here hx rfl (hb hby at_141) rfl (own_lcF (cd := .ne) (fun q => q c141)) k) ?_
            refine own_go (mkF m 145 #[.val (.long q1), .second, .val (.long q2), .second, .val (.int q3), .val (.long v97), .second, .val (.long v104), .second, .val (.int v3), .val (.long v111), .second, .val (.long v111), .second] [(.int (1 : Int32))]) (fun t k => XS.iconst X135.here hx rfl (hb hby at_144) k) ?_
            refine own_go (mkF m 149 #[.val (.long q1), .second, .val (.long q2), .second, .val (.int q3), .val (.long v97), .second, .val (.long v104), .second, .val (.int v3), .val (.long v111), .second, .val (.long v111), .second] [(.int (1 : Int32))]) (fun t k => XS.goto X135.here hx rfl (pc0 := 145) (pc' := 149) rfl (hb hby at_145) (by decide) (by decide) k) ?_
            refine own_retI X135 hx hlk hret (by simp) rfl (hb hby at_149) (by decide) (by decide) ?_
            rw [e135]
            exact ⟨rfl, N135⟩
          · skip
            refine own_go (mkF m 148 #[.val (.long q1), .second, .val (.long q2), .second, .val (.int q3), .val (.long v97), .second, .val (.long v104), .second, .val (.int v3), .val (.long v111), .second, .val (.long v111), .second] []) (fun t k => XS.ifYes X135.here hx rfl (pc0 := 141) (pc' := 148) rfl (hb hby at_141) rfl (own_lcT (cd := .ne) c141) (by decide) (by decide) k) ?_
            refine own_go (mkF m 149 #[.val (.long q1), .second, .val (.long q2), .second, .val (.int q3), .val (.long v97), .second, .val (.long v104), .second, .val (.int v3), .val (.long v111), .second, .val (.long v111), .second] [(.int (0 : Int32))]) (fun t k => XS.iconst X135.here hx rfl (hb hby at_148) k) ?_
            refine own_retI X135 hx hlk hret (by simp) rfl (hb hby at_149) (by decide) (by decide) ?_
            rw [e135]
            exfalso
            omega
        · skip
          refine own_go (mkF m 121 #[.val (.long q1), .second, .val (.long q2), .second, .val (.int q3), .val (.long v97), .second, .val (.long v104), .second, .val (.int v3), .val (.long v111), .second, .unset, .unset] []) (fun t k => XS.ifNo X0.here hx rfl (hb hby at_118) rfl (own_lcF (cd := .ge) c118) k) ?_
          refine own_go (mkF m 124 #[.val (.long q1), .second, .val (.long q2), .second, .val (.int q3), .val (.long v97), .second, .val (.long v104), .second, .val (.int v3), .val (.long v111), .second, .unset, .unset] [(.long (9223372036854775807 : Int64))]) (fun t k => X0.ldc2Long hx hown (mvT hZ (hw _ (List.mem_of_getElem? (i := 0) rfl))) (g := (mkF m 121 #[.val (.long q1), .second, .val (.long q2), .second, .val (.int q3), .val (.long v97), .second, .val (.long v104), .second, .val (.int v3), .val (.long v111), .second, .unset, .unset] [])) rfl (hb hby at_121) _ k) ?_
          refine own_go (mkF m 129 #[.val (.long q1), .second, .val (.long q2), .second, .val (.int q3), .val (.long v97), .second, .val (.long v104), .second, .val (.int v3), .val (.long v111), .second, .unset, .unset] [(.long (9223372036854775807 : Int64))]) (fun t k => XS.goto X0.here hx rfl (pc0 := 124) (pc' := 129) rfl (hb hby at_124) (by decide) (by decide) k) ?_
          refine own_go (mkF m 131 #[.val (.long q1), .second, .val (.long q2), .second, .val (.int q3), .val (.long v97), .second, .val (.long v104), .second, .val (.int v3), .val (.long v111), .second, .val (.long (9223372036854775807 : Int64)), .second] []) (fun t k => XS.lstore X0.here hx rfl (hb hby at_129) rfl (l' := #[.val (.long q1), .second, .val (.long q2), .second, .val (.int q3), .val (.long v97), .second, .val (.long v104), .second, .val (.int v3), .val (.long v111), .second, .val (.long (9223372036854775807 : Int64)), .second]) rfl k) ?_
          refine own_go (mkF m 133 #[.val (.long q1), .second, .val (.long q2), .second, .val (.int q3), .val (.long v97), .second, .val (.long v104), .second, .val (.int v3), .val (.long v111), .second, .val (.long (9223372036854775807 : Int64)), .second] [(.long v97)]) (fun t k => XS.lload X0.here hx rfl (hb hby at_131) rfl k) ?_
          refine own_go (mkF m 135 #[.val (.long q1), .second, .val (.long q2), .second, .val (.int q3), .val (.long v97), .second, .val (.long v104), .second, .val (.int v3), .val (.long v111), .second, .val (.long (9223372036854775807 : Int64)), .second] [(.long v104), (.long v97)]) (fun t k => XS.lload X0.here hx rfl (hb hby at_133) rfl k) ?_
          refine own_callS X0 hx hZ (y := (⟨"com/example/starbyte/starbyte/hdu/NestedArrays", "sum", "(JJ)J"⟩ : MethodName)) hown (hw _ (List.mem_of_getElem? (i := 1) rfl)) (hw _ (List.mem_of_getElem? (i := 2) rfl)) (hw _ (List.mem_of_getElem? (i := 3) rfl)) (hw _ (List.mem_of_getElem? (i := 4) rfl)) (by decide) e0 (rm1 l Z a0 hw [] v97 v104 h0 n0 Z0) 0 (by decide) (by decide) (by decide) (by decide) (g := (mkF m 135 #[.val (.long q1), .second, .val (.long q2), .second, .val (.int q3), .val (.long v97), .second, .val (.long v104), .second, .val (.int v3), .val (.long v111), .second, .val (.long (9223372036854775807 : Int64)), .second] [(.long v104), (.long v97)])) rfl (by rw [hml]; rfl) [(.long v97), (.long v104)] [] (lenOf pd0_0 rfl) rfl rfl (by show 2 * 0 + _ ≤ _; exact Nat.le_of_eq rfl) (hb hby at_135) ?_
          intro rv135 T135 h135 L135 X135 e135 hQ135
          obtain ⟨⟨r135, rfl, hr135⟩, NQ135, eq135⟩ := hQ135
          rw [eq135] at e135
          have rr135 := rng64 r135
          have N135 := Fr.app N0 NQ135
          show own_Ends p e below s room_1.cells room_1.slots (Q0 Z q1 q2 q3 h0 n0) T135 (mkF m 138 #[.val (.long q1), .second, .val (.long q2), .second, .val (.int q3), .val (.long v97), .second, .val (.long v104), .second, .val (.int v3), .val (.long v111), .second, .val (.long (9223372036854775807 : Int64)), .second] [(.long r135)])
          refine own_go (mkF m 140 #[.val (.long q1), .second, .val (.long q2), .second, .val (.int q3), .val (.long v97), .second, .val (.long v104), .second, .val (.int v3), .val (.long v111), .second, .val (.long (9223372036854775807 : Int64)), .second] [(.long (9223372036854775807 : Int64)), (.long r135)]) (fun t k => XS.lload X135.here hx rfl (hb hby at_138) rfl k) ?_
          refine own_go (mkF m 141 #[.val (.long q1), .second, .val (.long q2), .second, .val (.int q3), .val (.long v97), .second, .val (.long v104), .second, .val (.int v3), .val (.long v111), .second, .val (.long (9223372036854775807 : Int64)), .second] [(.int (lcmpW r135 (9223372036854775807 : Int64)))]) (fun t k => XS.lcmp X135.here hx rfl (hb hby at_140) rfl k) ?_
          by_cases c141 : r135.toInt = 9223372036854775807
          · skip
            refine own_go (mkF m 144 #[.val (.long q1), .second, .val (.long q2), .second, .val (.int q3), .val (.long v97), .second, .val (.long v104), .second, .val (.int v3), .val (.long v111), .second, .val (.long (9223372036854775807 : Int64)), .second] []) (fun t k => XS.ifNo X135.here hx rfl (hb hby at_141) rfl (own_lcF (cd := .ne) (fun q => q c141)) k) ?_
            refine own_go (mkF m 145 #[.val (.long q1), .second, .val (.long q2), .second, .val (.int q3), .val (.long v97), .second, .val (.long v104), .second, .val (.int v3), .val (.long v111), .second, .val (.long (9223372036854775807 : Int64)), .second] [(.int (1 : Int32))]) (fun t k => XS.iconst X135.here hx rfl (hb hby at_144) k) ?_
            refine own_go (mkF m 149 #[.val (.long q1), .second, .val (.long q2), .second, .val (.int q3), .val (.long v97), .second, .val (.long v104), .second, .val (.int v3), .val (.long v111), .second, .val (.long (9223372036854775807 : Int64)), .second] [(.int (1 : Int32))]) (fun t k => XS.goto X135.here hx rfl (pc0 := 145) (pc' := 149) rfl (hb hby at_145) (by decide) (by decide) k) ?_
            refine own_retI X135 hx hlk hret (by simp) rfl (hb hby at_149) (by decide) (by decide) ?_
            rw [e135]
            exact ⟨rfl, N135⟩
          · skip
            refine own_go (mkF m 148 #[.val (.long q1), .second, .val (.long q2), .second, .val (.int q3), .val (.long v97), .second, .val (.long v104), .second, .val (.int v3), .val (.long v111), .second, .val (.long (9223372036854775807 : Int64)), .second] []) (fun t k => XS.ifYes X135.here hx rfl (pc0 := 141) (pc' := 148) rfl (hb hby at_141) rfl (own_lcT (cd := .ne) c141) (by decide) (by decide) k) ?_
            refine own_go (mkF m 149 #[.val (.long q1), .second, .val (.long q2), .second, .val (.int q3), .val (.long v97), .second, .val (.long v104), .second, .val (.int v3), .val (.long v111), .second, .val (.long (9223372036854775807 : Int64)), .second] [(.int (0 : Int32))]) (fun t k => XS.iconst X135.here hx rfl (hb hby at_148) k) ?_
            refine own_retI X135 hx hlk hret (by simp) rfl (hb hby at_149) (by decide) (by decide) ?_
            rw [e135]
            exfalso
            omega
set_option maxRecDepth 65536 in
set_option maxHeartbeats 40000000 in
theorem comes_1 {Post : Tables → Env → Array Value → State → Outcome → State → Prop} (hpost : ∀ tb e args s v u, (limb_1_1.after args s (.returned v) u = true ∧ limb_1_2.after args s (.returned v) u = true ∧ True) → FrameEnd s (.returned v) u (Jvm.fieldLocs frame_1_writes args s ++ Jvm.arrayLocs frame_1_arrays args s ++ Jvm.staticLocs frame_1_statics s) 0 0 → Post tb e args s (.returned v) u) :
    ArmFor flags0 classFile x code maxLocals ret World_1 tables_1 room_1 Calls_1 rest_1 Pre_1 Post := by
  intro l hfl _ _ p e ha hc hk s m args below hf hA hF happ hP
  obtain ⟨hcalls, hrest, hpre⟩ := hP
  obtain ⟨-, -, -, hnamed, -, -, -, hat⟩ := (Spec.applies_iff hf).mp happ
  obtain ⟨hg, hn⟩ := and_e (Cond.before_iff.mp (show (Jvm.Cond.and given_1 narrow_1).before args s = true from hpre))
  obtain ⟨q0, u0⟩ := and_e hg
  obtain ⟨k0, u1⟩ := and_e u0
  obtain ⟨k1, u2⟩ := and_e u1
  obtain ⟨w0, w1, w2, rfl⟩ : ∃ w0 w1 w2 : Value, args = #[w0, w1, w2] := by
    have hs : args.size = 3 := by simpa [Cond.value, given_1] using q0
    obtain ⟨L⟩ := args
    match L, hs with
    | [w0, w1, w2], _ => exact ⟨w0, w1, w2, rfl⟩
  have hw := fun d (hd : d ∈ tables_1) => atoms_spec (ws := Jvm.Cond.code x code maxLocals ret :: tables_1) hat d (List.mem_cons_of_mem _ hd)
  obtain ⟨i0, g0⟩ := isL_v k0
  obtain rfl : w0 = (.long i0) := Option.some.inj g0
  obtain ⟨i1, g1⟩ := isL_v k1
  obtain rfl : w1 = (.long i1) := Option.some.inj g1
  obtain ⟨i2, g2⟩ := is_v u2
  obtain rfl : w2 = (.int i2) := Option.some.inj g2
  obtain ⟨n, o, h1, h2, h3, _, L, rfl, ⟨rfl, N⟩, hq⟩ := rm0 l s _ hw tables_1 i0 i1 i2 s.heap s.heap.size (Nat.le_refl _)  p e ha hc hk s m _ below hf ((Spec.applies_iff_loose hf).mp happ).1 ⟨rfl, State.Warmed39.refl s, rfl⟩ trivial
  refine ⟨n, _, h1, h2, h3, hpost _ _ _ _ _ _ ⟨Cond.after_iff.mpr rfl, Cond.after_iff.mpr (eq_i res_at (Term.int_eval (1)) rfl), trivial⟩ ⟨hq.1, hq.2.1, (hq.2.2.sift fun y hy => Or.inr (N y hy)).mono (by decide) (by decide)⟩⟩
theorem main_1_1 : Claimed_1_1 := comes_1 fun _ _ _ _ _ _ h hF => ⟨h.1, hF⟩
theorem main_1_2 : Claimed_1_2 := comes_1 fun _ _ _ _ _ _ h hF => ⟨h.2.1, hF⟩
end Jvm.Pilot.@@N@@
namespace Jvm.Pilot.@@N@@
open Jvm Jvm.ClassFile Sem Op Lib Jvm.Free Jvm.Stand Jvm.Pilot.@@N@@.Jvm.D
/-! MADE BY PROGRAM (witnessworld.py) out of the Statement's table words and the real class files: 9 classes; the members and pool entries that the words name. The judged class is class 1, her method 1. -/
namespace start1
open Jvm.ClassFile
def u (s : String) : CpInfo := .utf8 (stringToUtf16 s)
/-- a pool by its gaps: so many unusable entries, then the entry; so many at the end -/
def gap : Nat → List CpInfo → List CpInfo
  | 0, r => r
  | n + 1, r => .unusable :: gap n r
def poolList (es : List (Nat × CpInfo)) (last : Nat) : List CpInfo := es.foldr (fun e r => gap e.1 (e.2 :: r)) (gap last [])
def pool (es : List (Nat × CpInfo)) (last : Nat) : Array CpInfo := ⟨poolList es last⟩
def fileOf (pool : Array CpInfo) (this : Nat) (attrs : Array Attribute := #[]) (ms : Array MethodInfo := #[]) (fl : Nat := 33) (sup : Nat := 0) (ifs : Array Nat := #[]) (fds : Array FieldInfo := #[]) : ClassFile where
  minorVersion := 0
  majorVersion := 65
  constantPool := pool
  accessFlags := fl
  thisClass := this
  superClass := sup
  interfaces := ifs
  fields := fds
  methods := ms
  attributes := attrs
def plain (name : String) (sup : Option ClassId) : Class where
  name := name
  kind := .ordinary
  loader := none
  accessFlags := 33
  super := sup
  interfaces := #[]
  cf := none
  fields := #[]
  methods := #[]
  instanceTypes := #[]
  staticTypes := #[]
  resolved := #[]
  callSites := []
  init := .initialized
  statics := none
  mirror := none

def pool0 : Array CpInfo := pool [(5, u "<init>"), (0, u "()V"), (1, .class_ 10), (1, u "java/lang/Object")] 113

def k0m0 : Method := { name := "<init>", desc := "()V", sig := { parameters := [], returnType := none }, accessFlags := 1, code := none }
/-- java/lang/Object -/
def k0 : Class := { plain "java/lang/Object" none with
  accessFlags := 33
  interfaces := #[]
  cf := some (fileOf pool0 8 #[] #[{ accessFlags := 1, nameIndex := 5, descriptorIndex := 6, attributes := #[] }] 33 0 #[] #[])
  fields := #[]
  methods := #[k0m0]
  instanceTypes := #[]
  staticTypes := #[]
  resolved := Array.replicate 124 none
  statics := none }

def pool1 : Array CpInfo := pool [(2, .class_ 4), (1, u "java/lang/Object"), (0, u "<init>"), (0, u "()V"), (2, .long 9223372036854775807), (1, .long 7), (1, .long 4), (1, .long 65535), (1, .long 15), (1, .methodref 20 21), (0, .class_ 22), (0, .nameAndType 23 24), (0, u "com/example/starbyte/starbyte/hdu/NestedArrays"), (0, u "sum"), (0, u "(JJ)J"), (0, .class_ 26), (0, u "com/example/starbyte/starbyte/hdu/NestedArraysSumPinLaw"), (2, u "law"), (0, u "(JJI)Z")] 3

def k1m0 : Method := { name := "<init>", desc := "()V", sig := { parameters := [], returnType := none }, accessFlags := 2, code := none }
def k1c1 : Code := { maxStack := 4, maxLocals := 14, code := code, exceptionTable := #[], attributes := #[] }
def k1m1 : Method := { name := "law", desc := "(JJI)Z", sig := { parameters := [.long, .long, .int], returnType := some .boolean }, accessFlags := 9, code := some k1c1 }
/-- com/example/starbyte/starbyte/hdu/NestedArraysSumPinLaw -/
def k1 : Class := { plain "com/example/starbyte/starbyte/hdu/NestedArraysSumPinLaw" (some 0) with
  accessFlags := 49
  interfaces := #[]
  cf := some (fileOf pool1 25 #[] #[{ accessFlags := 2, nameIndex := 5, descriptorIndex := 6, attributes := #[] }, { accessFlags := 9, nameIndex := 29, descriptorIndex := 30, attributes := #[] }] 49 2 #[] #[])
  fields := #[]
  methods := #[k1m0, k1m1]
  instanceTypes := #[]
  staticTypes := #[]
  resolved := Array.replicate 34 none
  statics := none }

def pool2 : Array CpInfo := pool [(4, .class_ 6), (1, u "java/lang/Object"), (0, u "<init>"), (0, u "()V"), (22, .class_ 32), (0, u "com/example/starbyte/starbyte/hdu/NestedArrays"), (12, u "ELEMENT_SIZES"), (0, u "Ljava/util/Map;"), (23, u "(JJ)J"), (2, u "sum"), (2, .long 9223372036854775807), (130, u "MAX_DIMENSIONS"), (0, u "I"), (2, u "MAX_LENGTH"), (1, u "NESTING_ALLOWANCE"), (0, u "J"), (0, u "ARRAY_HEADER"), (1, u "REFERENCE")] 58

def k2m0 : Method := { name := "<init>", desc := "()V", sig := { parameters := [], returnType := none }, accessFlags := 2, code := none }
def k2c1 : Code := { maxStack := 6, maxLocals := 4, code := prog_37_method_4_code, exceptionTable := #[], attributes := #[] }
def k2m1 : Method := { name := "sum", desc := "(JJ)J", sig := { parameters := [.long, .long], returnType := some .long }, accessFlags := 8, code := some k2c1 }
/-- com/example/starbyte/starbyte/hdu/NestedArrays -/
def k2 : Class := { plain "com/example/starbyte/starbyte/hdu/NestedArrays" (some 0) with
  accessFlags := 48
  interfaces := #[]
  cf := some (fileOf pool2 31 #[] #[{ accessFlags := 2, nameIndex := 7, descriptorIndex := 8, attributes := #[] }, { accessFlags := 8, nameIndex := 73, descriptorIndex := 70, attributes := #[] }] 48 4 #[] #[{ accessFlags := 24, nameIndex := 207, descriptorIndex := 208, attributes := #[] }, { accessFlags := 24, nameIndex := 211, descriptorIndex := 208, attributes := #[] }, { accessFlags := 26, nameIndex := 213, descriptorIndex := 214, attributes := #[] }, { accessFlags := 26, nameIndex := 215, descriptorIndex := 208, attributes := #[] }, { accessFlags := 26, nameIndex := 217, descriptorIndex := 208, attributes := #[] }, { accessFlags := 26, nameIndex := 45, descriptorIndex := 46, attributes := #[] }])
  fields := #[{ name := "MAX_DIMENSIONS", type := .int, accessFlags := 24, slot := 0, constantValue := 0 }, { name := "MAX_LENGTH", type := .int, accessFlags := 24, slot := 1, constantValue := 0 }, { name := "NESTING_ALLOWANCE", type := .long, accessFlags := 26, slot := 2, constantValue := 0 }, { name := "ARRAY_HEADER", type := .int, accessFlags := 26, slot := 3, constantValue := 0 }, { name := "REFERENCE", type := .int, accessFlags := 26, slot := 4, constantValue := 0 }, { name := "ELEMENT_SIZES", type := (.object "java/util/Map"), accessFlags := 26, slot := 5, constantValue := 0 }]
  methods := #[k2m0, k2m1]
  instanceTypes := #[]
  staticTypes := #[.int, .int, .long, .int, .int, (.object "java/util/Map")]
  resolved := Array.replicate 276 none
  statics := none }

def pool3 : Array CpInfo := pool [(1, u "java/lang/Cloneable"), (0, .class_ 1), (0, u "java/lang/Object"), (0, .class_ 3)] 3

/-- java/lang/Cloneable -/
def k3 : Class := { plain "java/lang/Cloneable" (some 0) with
  accessFlags := 1537
  interfaces := #[]
  cf := some (fileOf pool3 2 #[] #[] 1537 4 #[] #[])
  fields := #[]
  methods := #[]
  instanceTypes := #[]
  staticTypes := #[]
  resolved := Array.replicate 8 none
  statics := none }

def pool4 : Array CpInfo := pool [(1, u "java/io/Serializable"), (0, .class_ 1), (0, u "java/lang/Object"), (0, .class_ 3)] 3

/-- java/io/Serializable -/
def k4 : Class := { plain "java/io/Serializable" (some 0) with
  accessFlags := 1537
  interfaces := #[]
  cf := some (fileOf pool4 2 #[] #[] 1537 4 #[] #[])
  fields := #[]
  methods := #[]
  instanceTypes := #[]
  staticTypes := #[]
  resolved := Array.replicate 8 none
  statics := none }

/-- the primitive byte -/
def k5 : Class := { plain "byte" none with kind := .primitive 'B', accessFlags := 0x411 }
/-- [B -/
def k6 : Class := { plain "[B" (some 0) with kind := .array 5 .byte, interfaces := #[3, 4], accessFlags := 1041 }

/-- the primitive int -/
def k7 : Class := { plain "int" none with kind := .primitive 'I', accessFlags := 0x411 }
/-- [I -/
def k8 : Class := { plain "[I" (some 0) with kind := .array 7 .int, interfaces := #[3, 4], accessFlags := 1041 }

def heap : Heap := #[]
def classes : Array Class := #[k0, k1, k2, k3, k4, k5, k6, k7, k8]
def interned : List (Array UInt16 × Addr) := []
def slotsUsed : Nat := 0
def theMethod : MethodId := ⟨1, 1⟩
def args0 : Array Value := #[.long 5, .long 7, .int 2]
def aboutOver (below : List Frame) : State where
  vm := { classes := classes, interned := interned.toArray }
  heap := heap
  slotsUsed := slotsUsed
  threads := #[{ frames := .invoking theMethod args0 :: below }]
def below0 : List Frame := [.native { method := ⟨0, 0⟩, args := #[] }]
def about1 : State := aboutOver below0
def p0 : Program := .bare "" "" ""
def e0 : Env := launch0.env 0 0 0
theorem w_frames : about1.frames = Frame.invoking theMethod args0 :: below0 := rfl
set_option maxRecDepth 65536 in
theorem w_args : argsFit about1.vm theMethod args0 = true := by decide +kernel
set_option maxRecDepth 65536 in
theorem w_heap : heapFits about1 = true := by decide +kernel
set_option maxRecDepth 65536 in
theorem w_runnable : about1.curStatus? = some .runnable := by decide +kernel
set_option maxRecDepth 65536 in
theorem w_alone : about1.alone = true := by decide +kernel
set_option maxRecDepth 65536 in
theorem w_named : about1.methodNamed? x = some theMethod := by decide +kernel
set_option maxRecDepth 65536 in
theorem w_hears : about1.hears theMethod below0 = true := by decide +kernel
set_option maxRecDepth 65536 in
theorem w_ripe : about1.ripe theMethod args0 below0 = true := by decide +kernel
theorem w_running : about1.status = .running := rfl
set_option maxRecDepth 65536 in
theorem w_room : about1.hasRoom e0.platform room_1 = true :=
  launch0.hasRoom_least _ room_1 (by decide +kernel) (by decide +kernel) (by decide +kernel) (by decide +kernel) (by decide +kernel) (by decide +kernel)
theorem allAtoms_all (ts : List Jvm.Cond) (a : Array Jvm.Value) (st : Jvm.State) : (allAtoms ts).before a st = ts.all (fun c => c.before a st) := by
  induction ts with
  | nil => rfl
  | cons c t ih =>
    show (Jvm.Cond.and c (allAtoms t)).before a st = _
    rw [Jvm.Cond.before_and, ih, List.all_cons]
def words1 : List Jvm.Cond := Jvm.Cond.code x code maxLocals ret :: tables_1
/-- a 'code' word, met by the world's own term for the bytes: nothing is compared byte by byte -/
theorem code_word {y : MethodName} {bytes : ByteArray} {mx : Nat} {rt : Option FieldType} {a : Array Value} {s : State} {m : MethodId} {meth : Method} {c : Code} (h1 : s.methodNamed? y = some m) (h2 : s.vm.method? m = some meth) (h3 : meth.code = some c) (h4 : c.code = bytes)
    (h5 : (c.maxLocals == mx && c.exceptionTable.isEmpty && decide (c.maxStack ≤ mostOperands) && decide (meth.sig.returnType = rt) && !meth.locks && decide (parseMethodDescriptor y.desc = some meth.sig)) = true) : (Jvm.Cond.code y bytes mx rt).before a s = true := by
  simp only [Bool.and_eq_true, beq_iff_eq, Bool.not_eq_true', decide_eq_true_eq] at h5
  obtain ⟨⟨⟨⟨⟨g1, g2⟩, g3⟩, g4⟩, g5⟩, g6⟩ := h5
  simp [Cond.before, Cond.holds, Cond.value, h1, h2, h3, h4, g1, g2, g3, g4, g5, g6]
def isCode : Jvm.Cond → Bool
  | .code _ _ _ _ => true
  | _ => false
theorem all_split {L : List Jvm.Cond} {P : Jvm.Cond → Bool} (h1 : L.all (fun c => isCode c || P c) = true) (h2 : ∀ c ∈ L.filter isCode, P c = true) : L.all P = true := by
  refine List.all_eq_true.mpr fun c hc => ?_
  have h := List.all_eq_true.mp h1 c hc
  rcases Bool.eq_false_or_eq_true (isCode c) with hi | hi
  · exact h2 c (List.mem_filter.mpr ⟨hc, hi⟩)
  · simpa [hi] using h
set_option maxRecDepth 65536 in
theorem w_c0 : (Jvm.Cond.code x code maxLocals ret).before args0 about1 = true := code_word (m := ⟨1, 1⟩) (meth := k1m1) (c := k1c1) (by decide +kernel) rfl rfl rfl (by decide +kernel)
set_option maxRecDepth 65536 in
theorem w_c1 : (Jvm.Cond.code ({ cls := "com/example/starbyte/starbyte/hdu/NestedArrays", name := "sum", desc := "(JJ)J" } : Jvm.MethodName) prog_37_method_4_code (4 : Nat) (Option.some Jvm.ClassFile.FieldType.long)).before args0 about1 = true := code_word (m := ⟨2, 1⟩) (meth := k2m1) (c := k2c1) (by decide +kernel) rfl rfl rfl (by decide +kernel)
def codes1 : List Jvm.Cond := [Jvm.Cond.code x code maxLocals ret, Jvm.Cond.code ({ cls := "com/example/starbyte/starbyte/hdu/NestedArrays", name := "sum", desc := "(JJ)J" } : Jvm.MethodName) prog_37_method_4_code (4 : Nat) (Option.some Jvm.ClassFile.FieldType.long)]
set_option maxRecDepth 65536 in
theorem codes_eq : words1.filter isCode = codes1 := rfl
theorem w_codes : ∀ c ∈ words1.filter isCode, c.before args0 about1 = true := by
  rw [codes_eq]
  intro c hc
  simp only [codes1, List.mem_cons, List.not_mem_nil, or_false] at hc
  rcases hc with rfl | rfl
  · exact w_c0
  · exact w_c1
set_option maxRecDepth 65536 in
theorem w_t1 : words1.all (fun c => isCode c || c.before args0 about1) = true := by decide +kernel
theorem w_tables : (allAtoms (Jvm.Cond.code x code maxLocals ret :: tables_1)).before args0 about1 = true := by
  rw [allAtoms_all]
  show words1.all (fun c => c.before args0 about1) = true
  refine all_split ?_ w_codes
  rw [w_t1]
set_option maxRecDepth 65536 in
theorem w_case : (Jvm.Cond.and given_1 narrow_1).before args0 about1 = true := by decide +kernel
theorem w_applies : (headSpec (Jvm.Cond.code x code maxLocals ret :: tables_1) room_1).applies x e0.platform about1 = true :=
  (Spec.applies_iff w_frames).mpr ⟨w_running, w_runnable, w_alone, w_named, w_hears, w_ripe, w_room, w_tables⟩
theorem atStart : AtStart classFile x code maxLocals ret World_1 tables_1 room_1 Calls_1 rest_1 Pre_1 launch0 p0 e0 about1 theMethod args0 below0 :=
  ⟨lists_1, trivial, launch0.admits_env _ _ _, launch0.least_env, fairChoices_fair.cas, fairChoices_fair.clock, w_frames, w_args, w_heap, w_applies, trivial, trivial, w_case⟩
end start1
theorem witness_1 : WitnessClaimed_1 := ⟨start1.p0, start1.e0, start1.about1, start1.theMethod, start1.args0, start1.below0, start1.atStart⟩
end Jvm.Pilot.@@N@@
