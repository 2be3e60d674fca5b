import JvmDerived
import JvmDerived.Pilot.@@N@@Statement
import JvmDerived.Pilot.@@N@@Code
set_option linter.unusedVariables false
set_option linter.unusedSimpArgs false
namespace Jvm.Pilot.@@N@@
open Jvm Jvm.ClassFile Sem Op Lib Jvm.Free Jvm.Stand Jvm.LawKit Jvm.RoadKit Bundle Jvm.Pilot.@@N@@.Jvm.D
section Own
variable {p : Program} {l : Launch} {e : Env} {R : Room} {s : State} {m : MethodId} {args : Array Value} {below : List Frame} {meth : Method} {c : Code} {T T' : State} {locs : List Loc} {cells slots C S : Nat} {Qv : Option Value → Heap → List Loc → Prop} {Z : State} {a0 : Array Value} {h : Heap}
/-- from here, with this frame on top, the method returns, Qv holds of what it returns, of the heap and of what was written, within C cells and S slots -/
def own_Ends (p : Program) (e : Env) (below : List Frame) (s : State) (C S : Nat) (Qv : Option Value → Heap → List Loc → Prop) (T : State) (g : JFrame) : Prop :=
  ∃ (s₂ : State) (o : Outcome), Steps p.tables e below (T.setTop g) s₂ ∧ s₂.status = .running ∧ Ended s₂ below o ∧ ∃ v L, o = .returned v ∧ Qv v s₂.heap L ∧ FrameEnd s o s₂ L C S
theorem own_go {g : JFrame} (g' : JFrame) (st : ∀ t, Steps p.tables e below (T'.setTop g') t → Steps p.tables e below (T.setTop g) t) (k : own_Ends p e below s C S Qv T' g') : own_Ends p e below s C S Qv T g := by
  obtain ⟨s₂, o, h1, h⟩ := k
  exact ⟨s₂, o, st _ h1, h⟩
theorem own_ret (X : Stand p l e R s m args below meth c T locs cells slots) (hlk : meth.locks = false) {g : JFrame} {v : Option Value} (hv : meth.sig.returnType = none → v = none)
    (st : ∀ fs, (∀ (f : JFrame) (acts : List Action), f.method = m → f.locked = none → f.entered = [] → (doReturn e (T.setTop f) acts v).1 = T.setFrames fs) → Steps p.tables e below (T.setTop g) (T.setFrames fs))
    (hC : cells ≤ C) (hS : slots ≤ S) (hQ : Qv v T.heap locs) : own_Ends p e below s C S Qv T g := by
  obtain ⟨fs, hr, hrun, hended, hW, hsame⟩ := X.leave (v := v) hv hlk
  exact ⟨_, _, st fs hr, hrun, hended, v, locs, rfl, hQ, ⟨_, rfl⟩, hW, hsame.mono hC hS⟩
theorem own_retI (X : Stand p l e R s m args below meth c T locs cells slots) (hx : p.tables.exec = Jvm.exec) (hlk : meth.locks = false) {pc : Nat} {Ls : Array Slot} {z : Int32} {rest : List Value} {t : FieldType} (hret : meth.sig.returnType = some t)
    (ht : t = .int ∨ t = .boolean ∨ t = .byte ∨ t = .char ∨ t = .short) (hn : narrow t (.int z) = .int z) (hd : decode c.code pc = .ok (.ireturn, 1)) (hC : cells ≤ C) (hS : slots ≤ S) (hQ : Qv (some (.int z)) T.heap locs) : own_Ends p e below s C S Qv T (mkF m pc Ls (.int z :: rest)) :=
  own_ret X hlk (fun h => by rw [hret] at h; cases h) (fun fs hr => retOut X hx hret hn (Or.inl ⟨rfl, ht, _, rfl⟩) hd hr) hC hS hQ
theorem own_retN (X : Stand p l e R s m args below meth c T locs cells slots) (hx : p.tables.exec = Jvm.exec) (hlk : meth.locks = false) {pc : Nat} {Ls : Array Slot} {z : Int32} {rest : List Value} {t : FieldType} (hret : meth.sig.returnType = some t)
    (ht : t = .boolean ∨ t = .byte ∨ t = .char ∨ t = .short) (hd : decode c.code pc = .ok (.ireturn, 1)) (hC : cells ≤ C) (hS : slots ≤ S) (hQ : Qv (some (.int (nar t z))) T.heap locs) : own_Ends p e below s C S Qv T (mkF m pc Ls (.int z :: rest)) :=
  own_ret X hlk (fun h => by rw [hret] at h; cases h) (fun fs hr => retN X hx hret ht hd hr) hC hS hQ
theorem own_retL (X : Stand p l e R s m args below meth c T locs cells slots) (hx : p.tables.exec = Jvm.exec) (hlk : meth.locks = false) {pc : Nat} {Ls : Array Slot} {z : Int64} {rest : List Value} (hret : meth.sig.returnType = some .long)
    (hd : decode c.code pc = .ok (.lreturn, 1)) (hC : cells ≤ C) (hS : slots ≤ S) (hQ : Qv (some (.long z)) T.heap locs) : own_Ends p e below s C S Qv T (mkF m pc Ls (.long z :: rest)) :=
  own_ret X hlk (fun h => by rw [hret] at h; cases h) (fun fs hr => retOut X hx hret rfl (Or.inr (Or.inl ⟨rfl, rfl, _, rfl⟩)) hd hr) hC hS hQ
theorem own_retA (X : Stand p l e R s m args below meth c T locs cells slots) (hx : p.tables.exec = Jvm.exec) (hlk : meth.locks = false) {pc : Nat} {Ls : Array Slot} {z : Addr} {rest : List Value} {t : FieldType} (hret : meth.sig.returnType = some t) (ht : t.isReference = true) (hn : narrow t (.ref z) = .ref z)
    (hd : decode c.code pc = .ok (.areturn, 1)) (hC : cells ≤ C) (hS : slots ≤ S) (hQ : Qv (some (.ref z)) T.heap locs) : own_Ends p e below s C S Qv T (mkF m pc Ls (.ref z :: rest)) :=
  own_ret X hlk (fun h => by rw [hret] at h; cases h) (fun fs hr => retOut X hx hret hn (Or.inr (Or.inr (Or.inr (Or.inr ⟨rfl, ht, rfl⟩)))) hd hr) hC hS hQ
theorem own_ret0 (X : Stand p l e R s m args below meth c T locs cells slots) (hx : p.tables.exec = Jvm.exec) (hlk : meth.locks = false) {pc : Nat} {Ls : Array Slot} (hret : meth.sig.returnType = none)
    (hd : decode c.code pc = .ok (.return_, 1)) (hC : cells ≤ C) (hS : slots ≤ S) (hQ : Qv none T.heap locs) : own_Ends p e below s C S Qv T (mkF m pc Ls []) :=
  own_ret X hlk (fun _ => rfl) (fun fs hr => X.returnOut hx hret hd hr) hC hS hQ
/-- a contract out of its body's walk -/
theorem own_met {y : MethodName} {bytes : ByteArray} {maxL : Nat} {ret : Option FieldType} {ws : List Jvm.Cond} {rm : Room} {as' : Array Value} {h0 : Heap} (hp : plainFor y = true)
    (body : ∀ (p : Program) (e : Env) (s : State) (m : MethodId) (below : List Frame) (meth : Method) (c : Code) (T : State), p.tables.exec = Jvm.exec → c.code = bytes → c.maxLocals = maxL → s.vm.findClass y.cls = some m.cls → meth.sig.returnType = ret → meth.locks = false → meth.name = y.name → Z.Warmed39 s.vm → Stand p l e rm s m as' below meth c T [] 0 0 → T.heap = h0 → own_Ends p e below s rm.cells rm.slots Qv T (entryFrame m as' maxL)) :
    MetFree l y (head1 (Jvm.Cond.code y bytes maxL ret :: ws) rm) (fun a U => a = as' ∧ Z.Warmed39 U.vm ∧ U.heap = h0) (fun _ _ _ _ _ => True) (fun _ U o U' => ∃ v L, o = .returned v ∧ Qv v U'.heap L ∧ FrameEnd U o U' L rm.cells rm.slots) := by
  refine MetFree.of_bodySF hp hisR ?_
  intro p e s m args below meth c s₁ Bd hml0 hP hK
  obtain ⟨rfl, hZ, hh⟩ := hP
  exact body p e s m below meth c s₁ Bd.exec Bd.bytes hml0 (findClass_of_methodNamed Bd.named) Bd.returns Bd.notSynchronized ((name_of_methodNamed Bd.named Bd.method).1) hZ (Stand.of_body Bd) (by rw [← hh, Bd.state]; rfl)
/-- what a callee's contract says (as' its arguments, h the heap where it is called) -/
abbrev own_Met (l : Launch) (Z : State) (y : MethodName) (bytes : ByteArray) (maxL : Nat) (ret : Option FieldType) (rm : Room) (as' : Array Value) (h : Heap) (Q : Option Value → Heap → List Loc → Prop) : Prop :=
  MetFree l y (head1 [Jvm.Cond.code y bytes maxL ret] rm) (fun a U => a = as' ∧ Z.Warmed39 U.vm ∧ U.heap = h) (fun _ _ _ _ _ => True) (fun _ U o U' => ∃ v L, o = .returned v ∧ Q v U'.heap L ∧ FrameEnd U o U' L rm.cells rm.slots)
theorem own_callS (X : Stand p l e R s m args below meth c T locs cells slots) (hx : p.tables.exec = Jvm.exec) (hZ : Z.Warmed39 s.vm) {own : String} {index : Nat} {y : MethodName} {bytes : ByteArray} {maxL : Nat} {ret : Option FieldType} {rm : Room} {as' : Array Value} {Q : Option Value → Heap → List Loc → Prop}
    (hown : s.vm.findClass own = some m.cls) (w1 : (Jvm.Cond.methodLink own index y).before a0 Z = true) (w2 : (Jvm.Cond.static y).before a0 Z = true) (w3 : (Jvm.Cond.initialized y.cls).before a0 Z = true) (w4 : (Jvm.Cond.code y bytes maxL ret).before a0 Z = true)
    (hy : y.cls ≠ "java/lang/invoke/MethodHandle" ∧ y.cls ≠ "java/lang/invoke/VarHandle") (eT : T.heap = h) (hM : own_Met l Z y bytes maxL ret rm as' h Q)
    (W : Nat) (hf : rm.frames + 1 ≤ R.frames) (hl : W + (maxL + 11) + rm.locals ≤ R.locals) (hC : cells + rm.cells ≤ R.cells) (hS : slots + rm.slots ≤ R.slots)
    {g : JFrame} (hg : g.method = m) (hsize : g.locals.size = c.maxLocals) (argsL rest : List Value) (hlen : ∀ sig, parseMethodDescriptor y.desc = some sig → argsL.length = sig.parameters.length)
    (hstack : g.stack = argsL.reverse ++ rest) (has : argsL.toArray = as') (hW : 2 * g.monitorRoom + (rest.map fun v => v.category).sum ≤ W) (hd : decode c.code g.pc = .ok (.invokestatic index, 3))
    (k : ∀ v T' h' L, Stand p l e R s m args below meth c T' (locs ++ L) (cells + rm.cells) (slots + rm.slots) → T'.heap = h' → Q v h' L → own_Ends p e below s C S Qv T' { g with pc := g.pc + 3, stack := v.toList ++ rest }) : own_Ends p e below s C S Qv T g := by
  obtain ⟨v, _, ⟨T', L', k', n'⟩, -, X', ⟨Lc, hQ, l1, y1, z1⟩, st⟩ := Jvm.LawKit.callS X hx (y := y) hown (mvT hZ w1) (mvT hZ w2) (mvT hZ w3) (mvT hZ w4) hy (backOf (W := W) hM hZ w4 w3 hf hl) (g := g) hg hsize (argsL := argsL) (rest := rest) hlen hstack hW hd (fun _ _ => ⟨has, eT, hC, hS⟩)
  dsimp only [Pt.U, Pt.locs, Pt.cells, Pt.slots] at X' l1 y1 z1 st hQ
  subst l1 y1 z1
  exact own_go _ st (k v T' _ Lc X' rfl hQ)
theorem own_callI (X : Stand p l e R s m args below meth c T locs cells slots) (hx : p.tables.exec = Jvm.exec) (hZ : Z.Warmed39 s.vm) {own : String} {index : Nat} {y : MethodName} {bytes : ByteArray} {maxL : Nat} {rm : Room} {as' : Array Value} {Q : Option Value → Heap → List Loc → Prop}
    (hown : s.vm.findClass own = some m.cls) (hy1 : y.name = "<init>") (w1 : (Jvm.Cond.methodLink own index y).before a0 Z = true) (w2 : (Jvm.Cond.instanceMethod y).before a0 Z = true) (w3 : (Jvm.Cond.initialized y.cls).before a0 Z = true) (w4 : (Jvm.Cond.code y bytes maxL none).before a0 Z = true)
    (hy : y.cls ≠ "java/lang/invoke/MethodHandle" ∧ y.cls ≠ "java/lang/invoke/VarHandle") (eT : T.heap = h) (hM : own_Met l Z y bytes maxL none rm as' h Q)
    (W : Nat) (hf : rm.frames + 1 ≤ R.frames) (hl : W + (maxL + 11) + rm.locals ≤ R.locals) (hC : cells + rm.cells ≤ R.cells) (hS : slots + rm.slots ≤ R.slots)
    {g : JFrame} (hg : g.method = m) (hsize : g.locals.size = c.maxLocals) (a : Addr) (argsL rest : List Value) (hlen : ∀ sig, parseMethodDescriptor y.desc = some sig → argsL.length = sig.parameters.length)
    (hstack : g.stack = argsL.reverse ++ .ref a :: rest) (has : (Value.ref a :: argsL).toArray = as') (hW : 2 * g.monitorRoom + (rest.map fun v => v.category).sum ≤ W) (hd : decode c.code g.pc = .ok (.invokespecial index, 3))
    (k : ∀ v T' h' L, Stand p l e R s m args below meth c T' (locs ++ L) (cells + rm.cells) (slots + rm.slots) → T'.heap = h' → Q v h' L → own_Ends p e below s C S Qv T' { g with pc := g.pc + 3, stack := v.toList ++ rest }) : own_Ends p e below s C S Qv T g := by
  obtain ⟨v, _, ⟨T', L', k', n'⟩, -, X', ⟨Lc, hQ, l1, y1, z1⟩, st⟩ := Jvm.LawKit.callI X hx (y := y) hown hy1 (mvT hZ w1) (mvT hZ w2) (mvT hZ w4) hy (backOf (W := W) hM hZ w4 w3 hf hl) (g := g) hg hsize (a := a) (argsL := argsL) (rest := rest) hlen hstack hW hd (fun _ _ => ⟨has, eT, hC, hS⟩)
  dsimp only [Pt.U, Pt.locs, Pt.cells, Pt.slots] at X' l1 y1 z1 st hQ
  subst l1 y1 z1
  exact own_go _ st (k v T' _ Lc X' rfl hQ)
theorem own_callV (X : Stand p l e R s m args below meth c T locs cells slots) (hx : p.tables.exec = Jvm.exec) (hZ : Z.Warmed39 s.vm) {own C0 : String} {index : Nat} {y : MethodName} {bytes : ByteArray} {maxL : Nat} {ret : Option FieldType} {rm : Room} {as' : Array Value} {Q : Option Value → Heap → List Loc → Prop}
    (hown : s.vm.findClass own = some m.cls) (w1 : (Jvm.Cond.methodLink own index y).before a0 Z = true) (w5 : (Jvm.Cond.declares y).before a0 Z = true) (w6 : (Jvm.Cond.selects C0 y y).before a0 Z = true) (w2 : (Jvm.Cond.instanceMethod y).before a0 Z = true) (w3 : (Jvm.Cond.initialized y.cls).before a0 Z = true) (w4 : (Jvm.Cond.code y bytes maxL ret).before a0 Z = true)
    (hy : y.cls ≠ "java/lang/invoke/MethodHandle" ∧ y.cls ≠ "java/lang/invoke/VarHandle") (eT : T.heap = h) (a : Addr) (E : Exa Z h a C0) (hM : own_Met l Z y bytes maxL ret rm as' h Q)
    (W : Nat) (hf : rm.frames + 1 ≤ R.frames) (hl : W + (maxL + 11) + rm.locals ≤ R.locals) (hC : cells + rm.cells ≤ R.cells) (hS : slots + rm.slots ≤ R.slots)
    {g : JFrame} (hg : g.method = m) (hsize : g.locals.size = c.maxLocals) (argsL rest : List Value) (hlen : ∀ sig, parseMethodDescriptor y.desc = some sig → argsL.length = sig.parameters.length)
    (hstack : g.stack = argsL.reverse ++ .ref a :: rest) (has : (Value.ref a :: argsL).toArray = as') (hW : 2 * g.monitorRoom + (rest.map fun v => v.category).sum ≤ W) (hd : decode c.code g.pc = .ok (.invokevirtual index, 3))
    (k : ∀ v T' h' L, Stand p l e R s m args below meth c T' (locs ++ L) (cells + rm.cells) (slots + rm.slots) → T'.heap = h' → Q v h' L → own_Ends p e below s C S Qv T' { g with pc := g.pc + 3, stack := v.toList ++ rest }) : own_Ends p e below s C S Qv T g := by
  obtain ⟨cq, kq, q1, q2, q3⟩ := isOf hZ eT E
  obtain ⟨v, _, ⟨T', L', k', n'⟩, -, X', ⟨Lc, hQ, l1, y1, z1⟩, st⟩ := X.virtualBack hx (y := y) (z := y) hown (mvT hZ w1) (mvT hZ w5) (notFace_of_selects (args := #[]) (mvT hZ w6)) (mvT hZ w6) (mvT hZ w2) hy (backOf (W := W) hM hZ w4 w3 hf hl) q1 q3 (g := g) hg hsize (Steps.refl _) (argsL := argsL) (rest := rest) hlen hstack hW hd (fun _ _ => ⟨has, eT, hC, hS⟩)
  dsimp only [Pt.U, Pt.locs, Pt.cells, Pt.slots] at X' l1 y1 z1 st hQ
  subst l1 y1 z1
  exact own_go _ (fun t q => st.trans q) (k v T' _ Lc X' rfl hQ)
theorem own_callP (X : Stand p l e R s m args below meth c T locs cells slots) (hx : p.tables.exec = Jvm.exec) (hZ : Z.Warmed39 s.vm) {own C0 : String} {index kk : Nat} {y : MethodName} {bytes : ByteArray} {maxL : Nat} {ret : Option FieldType} {rm : Room} {as' : Array Value} {Q : Option Value → Heap → List Loc → Prop}
    (hown : s.vm.findClass own = some m.cls) (w1 : (Jvm.Cond.methodLink own index y).before a0 Z = true) (w2 : (Jvm.Cond.instanceMethod y).before a0 Z = true) (wi : (Jvm.Cond.instantiable y.cls kk).before a0 Z = true) (w5 : (Jvm.Cond.privateMethod y).before a0 Z = true) (w3 : (Jvm.Cond.initialized y.cls).before a0 Z = true) (w4 : (Jvm.Cond.code y bytes maxL ret).before a0 Z = true)
    (hy : y.cls ≠ "java/lang/invoke/MethodHandle" ∧ y.cls ≠ "java/lang/invoke/VarHandle") (eT : T.heap = h) (a : Addr) (E : Exa Z h a C0) (hM : own_Met l Z y bytes maxL ret rm as' h Q)
    (W : Nat) (hf : rm.frames + 1 ≤ R.frames) (hl : W + (maxL + 11) + rm.locals ≤ R.locals) (hC : cells + rm.cells ≤ R.cells) (hS : slots + rm.slots ≤ R.slots)
    {g : JFrame} (hg : g.method = m) (hsize : g.locals.size = c.maxLocals) (argsL rest : List Value) (hlen : ∀ sig, parseMethodDescriptor y.desc = some sig → argsL.length = sig.parameters.length)
    (hstack : g.stack = argsL.reverse ++ .ref a :: rest) (has : (Value.ref a :: argsL).toArray = as') (hW : 2 * g.monitorRoom + (rest.map fun v => v.category).sum ≤ W) (hd : decode c.code g.pc = .ok (.invokevirtual index, 3))
    (k : ∀ v T' h' L, Stand p l e R s m args below meth c T' (locs ++ L) (cells + rm.cells) (slots + rm.slots) → T'.heap = h' → Q v h' L → own_Ends p e below s C S Qv T' { g with pc := g.pc + 3, stack := v.toList ++ rest }) : own_Ends p e below s C S Qv T g := by
  obtain ⟨cq, q1, q2⟩ := E.cell
  have hp := Cond.privateMethod_at (mvP hZ w5 (args := #[]))
  obtain ⟨c2, k2, i1, i2, i3, i4, -⟩ := Cond.instantiable_spec (mvT (args := args) hZ wi)
  have hni : k2.isInterface = false := (Bool.or_eq_false_iff.mp i4).1
  have w6 := selects_self_of_private i1 i2 hni hp (mvT (args := args) hZ w2) hy
  obtain ⟨v, _, ⟨T', L', k', n'⟩, -, X', ⟨Lc, hQ, l1, y1, z1⟩, st⟩ := X.privateBack hx (y := y) hown (mvT hZ w1) (mvT hZ w2) w6 hp (mvT hZ w4) hy (backOf (W := W) hM hZ w4 w3 hf hl) (g := g) hg hsize (Steps.refl _) (a := a) (by rw [eT]; exact q1) q2 (argsL := argsL) (rest := rest) hlen hstack hW hd (fun _ _ => ⟨has, eT, hC, hS⟩)
  dsimp only [Pt.U, Pt.locs, Pt.cells, Pt.slots] at X' l1 y1 z1 st hQ
  subst l1 y1 z1
  exact own_go _ (fun t q => st.trans q) (k v T' _ Lc X' rfl hQ)
abbrev own_rel (cd : ClassFile.Cond) (a b : Int) : Prop := match cd with | .eq => a = b | .ne => ¬ a = b | .lt => a < b | .ge => b ≤ a | .gt => b < a | .le => a ≤ b
theorem own_icT {cd : ClassFile.Cond} {x y : Int32} (h : own_rel cd x.toInt y.toInt) : if_icmp.holds cd x y = true := by
  cases cd <;> simp [own_rel] at h <;> simp [if_icmp.holds, Int32.lt_iff_toInt_lt, Int32.le_iff_toInt_le, ← Int32.toInt_inj, h]
theorem own_icF {cd : ClassFile.Cond} {x y : Int32} (h : ¬ own_rel cd x.toInt y.toInt) : if_icmp.holds cd x y = false := by
  cases cd <;> simp [own_rel] at h <;> simp [if_icmp.holds, Int32.lt_iff_toInt_lt, Int32.le_iff_toInt_le, ← Int32.toInt_inj, h]
theorem own_zT {cd : ClassFile.Cond} {x : Int32} (h : own_rel cd x.toInt 0) : ifCond.holds cd x = true := (if0 cd x).trans (own_icT h)
theorem own_zF {cd : ClassFile.Cond} {x : Int32} (h : ¬ own_rel cd x.toInt 0) : ifCond.holds cd x = false := (if0 cd x).trans (own_icF h)
theorem own_cmp (cd : ClassFile.Cond) (x y : Int64) : own_rel cd (lcmpW x y).toInt 0 ↔ own_rel cd x.toInt y.toInt := by
  have h := c_lcmp x y
  cases cd <;> simp only [own_rel] <;> omega
theorem own_lcT {cd : ClassFile.Cond} {x y : Int64} (h : own_rel cd x.toInt y.toInt) : ifCond.holds cd (lcmpW x y) = true := own_zT ((own_cmp cd x y).mpr h)
theorem own_lcF {cd : ClassFile.Cond} {x y : Int64} (h : ¬ own_rel cd x.toInt y.toInt) : ifCond.holds cd (lcmpW x y) = false := own_zF (fun q => h ((own_cmp cd x y).mp q))
theorem own_xorm1 (x : Int64) : (x ^^^ (-1 : Int64)).toInt = -x.toInt - 1 := by
  have h : x ^^^ (-1 : Int64) = ~~~x := by
    apply Int64.toBitVec_inj.mp
    show x.toBitVec ^^^ BitVec.ofInt 64 (-1) = ~~~x.toBitVec
    have : BitVec.ofInt 64 (-1) = BitVec.allOnes 64 := by decide
    rw [this, BitVec.xor_allOnes]
  rw [h, Int64.toInt_not]
  have := rng64 x
  have e : (-x.toInt - 1).bmod (2 ^ 64) = -x.toInt - 1 := by
    rw [Int.bmod_eq_of_le] <;> omega
  first | exact e | omega
theorem own_nz32 {y : Int32} (h : ¬ y.toInt = 0) : y ≠ 0 := fun q => h (by rw [q]; rfl)
theorem own_nz64 {y : Int64} (h : ¬ y.toInt = 0) : y ≠ 0 := fun q => h (by rw [q]; rfl)
theorem own_lremV (x y : Int64) : 0 ≤ x.toInt → 0 < y.toInt → 0 ≤ (x - (x / y) * y).toInt ∧ (x - (x / y) * y).toInt < y.toInt ∧ (x - (x / y) * y).toInt ≤ x.toInt := by
  intro h0 h1
  rw [(c_lrem x y y.toInt rfl).1 h0]
  refine ⟨Int.emod_nonneg _ (by omega), Int.emod_lt_of_pos _ h1, ?_⟩
  have := Int.emod_add_mul_ediv x.toInt y.toInt
  have h2 : 0 ≤ x.toInt / y.toInt := Int.ediv_nonneg h0 (by omega)
  have h3 : 0 ≤ y.toInt * (x.toInt / y.toInt) := Int.mul_nonneg (by omega) h2
  omega
theorem own_iremV (x y : Int32) : 0 ≤ x.toInt → 0 < y.toInt → 0 ≤ (x % y).toInt ∧ (x % y).toInt < y.toInt ∧ (x % y).toInt ≤ x.toInt := fun h0 h1 =>
  have h := (c_iremV x y).1 h0 h1
  ⟨h.1, h.2.1, h.2.2.1⟩
end Own
theorem d1_0 : decode prog_31_method_18_code 0 = .ok (.ldc2_w 221, 3) := by decide +kernel
theorem d1_3 : decode prog_31_method_18_code 3 = .ok (.lload_n 0, 1) := by decide +kernel
theorem d1_4 : decode prog_31_method_18_code 4 = .ok (.ldc2_w 221, 3) := by decide +kernel
theorem d1_7 : decode prog_31_method_18_code 7 = .ok (.lrem, 1) := by decide +kernel
theorem d1_8 : decode prog_31_method_18_code 8 = .ok (.lsub, 1) := by decide +kernel
theorem d1_9 : decode prog_31_method_18_code 9 = .ok (.ldc2_w 221, 3) := by decide +kernel
theorem d1_12 : decode prog_31_method_18_code 12 = .ok (.lrem, 1) := by decide +kernel
theorem d1_13 : decode prog_31_method_18_code 13 = .ok (.l2i, 1) := by decide +kernel
theorem d1_14 : decode prog_31_method_18_code 14 = .ok (.ireturn, 1) := by decide +kernel
theorem pf1 : plainFor (⟨"com/example/starbyte/starbyte/hdu/Hdu", "padding", "(J)I"⟩ : MethodName) = true := by decide +kernel
theorem ef1 (m : MethodId) (q1 : Int64) : entryFrame m #[(.long q1)] 2 = (mkF m 0 #[.val (.long q1), .second] []) := by first | rfl | (simp [entryFrame, mkF, argsToLocals, Value.category, maxLocals]; done)
def Q1 (Z : State) (q1 : Int64) (h0 : Heap) (n0 : Nat) (v : Option Value) (h : Heap) (L : List Loc) : Prop := (∃ r : Int32, v = some (.int r) ∧ (0 ≤ q1.toInt → r.toInt = (2880 - q1.toInt % 2880) % 2880) ∧ (q1.toInt < 0 → r.toInt = (-q1.toInt) % 2880)) ∧ Fr n0 L ∧ h = h0
set_option maxRecDepth 65536 in
set_option maxHeartbeats 40000000 in
theorem rm1 (l : Launch) (Z : State) (a0 : Array Value) (hw : ∀ d ∈ tables_1, d.before a0 Z = true) (ws : List Jvm.Cond) (q1 : Int64) (h0 : Heap) (n0 : Nat) (Z0 : n0 ≤ h0.size) :
    MetFree l (⟨"com/example/starbyte/starbyte/hdu/Hdu", "padding", "(J)I"⟩ : MethodName) (head1 (Jvm.Cond.code (⟨"com/example/starbyte/starbyte/hdu/Hdu", "padding", "(J)I"⟩ : MethodName) prog_31_method_18_code 2 (some Jvm.ClassFile.FieldType.int) :: ws) ({ frames := 0, cells := 0, slots := 0, locals := 0 } : Room)) (fun aa U => aa = #[(.long q1)] ∧ Z.Warmed39 U.vm ∧ U.heap = h0) (fun _ _ _ _ _ => True) (fun _ U o U' => ∃ v L, o = .returned v ∧ Q1 Z q1 h0 n0 v U'.heap L ∧ FrameEnd U o U' L ({ frames := 0, cells := 0, slots := 0, locals := 0 } : Room).cells ({ frames := 0, cells := 0, slots := 0, locals := 0 } : Room).slots) := by
  refine own_met pf1 ?_
  intro p e s m below meth c T0 hx hby hml hown hret hlk hnm hZ X0 e0
  have N0 := Fr.nil n0
  have r_q1 := rng64 q1
  rw [ef1]
  refine own_go (mkF m 3 #[.val (.long q1), .second] [(.long (2880 : Int64))]) (fun t k => X0.ldc2Long hx hown (mvT hZ (hw _ (List.mem_of_getElem? (i := 4) rfl))) (g := (mkF m 0 #[.val (.long q1), .second] [])) rfl (hb hby d1_0) _ k) ?_
  refine own_go (mkF m 4 #[.val (.long q1), .second] [(.long q1), (.long (2880 : Int64))]) (fun t k => XS.lloadN X0.here hx rfl (hb hby d1_3) rfl k) ?_
  refine own_go (mkF m 7 #[.val (.long q1), .second] [(.long (2880 : Int64)), (.long q1), (.long (2880 : Int64))]) (fun t k => X0.ldc2Long hx hown (mvT hZ (hw _ (List.mem_of_getElem? (i := 4) rfl))) (g := (mkF m 4 #[.val (.long q1), .second] [(.long q1), (.long (2880 : Int64))])) rfl (hb hby d1_4) _ k) ?_
  refine own_go (mkF m 8 #[.val (.long q1), .second] [(.long (q1 - (q1 / (2880 : Int64)) * (2880 : Int64))), (.long (2880 : Int64))]) (fun t k => XS.lrem X0.here hx rfl (hb hby d1_7) rfl (by decide) k) ?_
  generalize hv7 : (q1 - (q1 / (2880 : Int64)) * (2880 : Int64)) = v7
  have f7 : (0 ≤ q1.toInt → v7.toInt = q1.toInt % 2880) ∧ (q1.toInt < 0 → v7.toInt = -((-q1.toInt) % 2880)) := by rw [← hv7]; exact c_lrem q1 (2880 : Int64) 2880 (by decide)
  have r7 := rng64 v7
  have b7 : -2880 < v7.toInt ∧ v7.toInt < 2880 := by omega
  refine own_go (mkF m 9 #[.val (.long q1), .second] [(.long ((2880 : Int64) - v7))]) (fun t k => XS.lsub X0.here hx rfl (hb hby d1_8) rfl k) ?_
  generalize hv8 : ((2880 : Int64) - v7) = v8
  have f8 : (v8.toInt - (2880 - v7.toInt)) % 18446744073709551616 = 0 := by rw [← hv8]; exact c_lsub (2880 : Int64) v7
  have r8 := rng64 v8
  replace f8 : v8.toInt = 2880 - v7.toInt := by clear f7; omega
  refine own_go (mkF m 12 #[.val (.long q1), .second] [(.long (2880 : Int64)), (.long v8)]) (fun t k => X0.ldc2Long hx hown (mvT hZ (hw _ (List.mem_of_getElem? (i := 4) rfl))) (g := (mkF m 9 #[.val (.long q1), .second] [(.long v8)])) rfl (hb hby d1_9) _ k) ?_
  refine own_go (mkF m 13 #[.val (.long q1), .second] [(.long (v8 - (v8 / (2880 : Int64)) * (2880 : Int64)))]) (fun t k => XS.lrem X0.here hx rfl (hb hby d1_12) rfl (by decide) k) ?_
  generalize hv12 : (v8 - (v8 / (2880 : Int64)) * (2880 : Int64)) = v12
  have f12 : (0 ≤ v8.toInt → v12.toInt = v8.toInt % 2880) ∧ (v8.toInt < 0 → v12.toInt = -((-v8.toInt) % 2880)) := by rw [← hv12]; exact c_lrem v8 (2880 : Int64) 2880 (by decide)
  have r12 := rng64 v12
  replace f12 : v12.toInt = v8.toInt % 2880 := f12.1 (by omega)
  refine own_go (mkF m 14 #[.val (.long q1), .second] [(.int (v12.toInt32))]) (fun t k => XS.l2i X0.here hx rfl (hb hby d1_13) rfl k) ?_
  generalize hv13 : (v12.toInt32) = v13
  have f13 : (v13.toInt - v12.toInt) % 4294967296 = 0 := by rw [← hv13]; exact c_l2i v12
  have r13 := rng32 v13
  replace f13 : v13.toInt = v12.toInt := by clear f7 f8; omega
  refine own_retI X0 hx hlk hret (by simp) rfl (hb hby d1_14) (by decide) (by decide) ?_
  rw [e0]
  refine ⟨⟨_, rfl, fun hq => ?_, fun hq => ?_⟩, N0, rfl⟩
  · rw [f13, f12, f8, f7.1 hq]
  · rw [f13, f12, f8, f7.2 hq]; clear f13 f12 f8 f7 r7 r8 r12 r13; omega
theorem pd0_0 : parseMethodDescriptor "(J)I" = some ⟨[.long], some .int⟩ := by decide +kernel
theorem pf0 : plainFor (⟨"com/example/starbyte/starbyte/hdu/HduPaddingPinLaw", "law", "(J)Z"⟩ : MethodName) = true := by decide +kernel
theorem ef0 (m : MethodId) (q1 : Int64) : entryFrame m #[(.long q1)] maxLocals = (mkF m 0 #[.val (.long q1), .second, .unset, .unset, .unset, .unset, .unset, .unset, .unset] []) := by first | rfl | (simp [entryFrame, mkF, argsToLocals, Value.category, maxLocals]; done)
def Q0 (Z : State) (q1 : Int64) (h0 : Heap) (n0 : Nat) (v : Option Value) (h : Heap) (L : List Loc) : Prop := v = some (.int 1) ∧ Fr n0 L
set_option maxRecDepth 65536 in
set_option maxHeartbeats 40000000 in
theorem rm0 (l : Launch) (Z : State) (a0 : Array Value) (hw : ∀ d ∈ tables_1, d.before a0 Z = true) (ws : List Jvm.Cond) (q1 : Int64) (h0 : Heap) (n0 : Nat) (Z0 : n0 ≤ h0.size) :
    MetFree l x (head1 (Jvm.Cond.code x code maxLocals ret :: ws) room_1) (fun aa U => aa = #[(.long q1)] ∧ Z.Warmed39 U.vm ∧ U.heap = h0) (fun _ _ _ _ _ => True) (fun _ U o U' => ∃ v L, o = .returned v ∧ Q0 Z q1 h0 n0 v U'.heap L ∧ FrameEnd U o U' L room_1.cells room_1.slots) := by
  refine own_met pf0 ?_
  intro p e s m below meth c T0 hx hby hml hown hret hlk hnm hZ X0 e0
  have N0 := Fr.nil n0
  have r_q1 := rng64 q1
  rw [ef0]
  refine own_go (mkF m 1 #[.val (.long q1), .second, .unset, .unset, .unset, .unset, .unset, .unset, .unset] [(.long q1)]) (fun t k => XS.lloadN X0.here hx rfl (hb hby at_0) rfl k) ?_
  refine own_callS X0 hx hZ (y := (⟨"com/example/starbyte/starbyte/hdu/Hdu", "padding", "(J)I"⟩ : MethodName)) hown (hw _ (List.mem_of_getElem? (i := 0) rfl)) (hw _ (List.mem_of_getElem? (i := 1) rfl)) (hw _ (List.mem_of_getElem? (i := 2) rfl)) (hw _ (List.mem_of_getElem? (i := 3) rfl)) (by decide) e0 (rm1 l Z a0 hw [] q1 h0 n0 Z0) 0 (by decide) (by decide) (by decide) (by decide) (g := (mkF m 1 #[.val (.long q1), .second, .unset, .unset, .unset, .unset, .unset, .unset, .unset] [(.long q1)])) rfl (by rw [hml]; rfl) [(.long q1)] [] (lenOf pd0_0 rfl) rfl rfl (by show 2 * 0 + _ ≤ _; exact Nat.le_of_eq rfl) (hb hby at_1) ?_
  intro rv1 T1 h1 L1 X1 e1 hQ1
  obtain ⟨⟨r1, rfl, hr1⟩, NQ1, eq1⟩ := hQ1
  rw [eq1] at e1
  have rr1 := rng32 r1
  have N1 := Fr.app N0 NQ1
  show own_Ends p e below s room_1.cells room_1.slots (Q0 Z q1 h0 n0) T1 (mkF m 4 #[.val (.long q1), .second, .unset, .unset, .unset, .unset, .unset, .unset, .unset] [(.int r1)])
  have b1 : 0 ≤ r1.toInt ∧ r1.toInt < 2880 := by omega
  refine own_go (mkF m 5 #[.val (.long q1), .second, .val (.int r1), .unset, .unset, .unset, .unset, .unset, .unset] []) (fun t k => XS.istoreN X1.here hx rfl (hb hby at_4) rfl (l' := #[.val (.long q1), .second, .val (.int r1), .unset, .unset, .unset, .unset, .unset, .unset]) rfl k) ?_
  refine own_go (mkF m 6 #[.val (.long q1), .second, .val (.int r1), .unset, .unset, .unset, .unset, .unset, .unset] [(.long q1)]) (fun t k => XS.lloadN X1.here hx rfl (hb hby at_5) rfl k) ?_
  refine own_go (mkF m 9 #[.val (.long q1), .second, .val (.int r1), .unset, .unset, .unset, .unset, .unset, .unset] [(.long (2880 : Int64)), (.long q1)]) (fun t k => X1.ldc2Long hx hown (mvT hZ (hw _ (List.mem_of_getElem? (i := 5) rfl))) (g := (mkF m 6 #[.val (.long q1), .second, .val (.int r1), .unset, .unset, .unset, .unset, .unset, .unset] [(.long q1)])) rfl (hb hby at_6) _ k) ?_
  refine own_go (mkF m 10 #[.val (.long q1), .second, .val (.int r1), .unset, .unset, .unset, .unset, .unset, .unset] [(.long (q1 - (q1 / (2880 : Int64)) * (2880 : Int64)))]) (fun t k => XS.lrem X1.here hx rfl (hb hby at_9) rfl (by decide) k) ?_
  generalize hv9 : (q1 - (q1 / (2880 : Int64)) * (2880 : Int64)) = v9
  have f9 : (0 ≤ q1.toInt → v9.toInt = q1.toInt % 2880) ∧ (q1.toInt < 0 → v9.toInt = -((-q1.toInt) % 2880)) := by rw [← hv9]; exact c_lrem q1 (2880 : Int64) 2880 (by decide)
  have r9 := rng64 v9
  have b9 : -2880 < v9.toInt ∧ v9.toInt < 2880 := by omega
  refine own_go (mkF m 11 #[.val (.long q1), .second, .val (.int r1), .val (.long v9), .second, .unset, .unset, .unset, .unset] []) (fun t k => XS.lstoreN X1.here hx rfl (hb hby at_10) rfl (l' := #[.val (.long q1), .second, .val (.int r1), .val (.long v9), .second, .unset, .unset, .unset, .unset]) rfl k) ?_
  refine own_go (mkF m 12 #[.val (.long q1), .second, .val (.int r1), .val (.long v9), .second, .unset, .unset, .unset, .unset] [(.long v9)]) (fun t k => XS.lloadN X1.here hx rfl (hb hby at_11) rfl k) ?_
  refine own_go (mkF m 13 #[.val (.long q1), .second, .val (.int r1), .val (.long v9), .second, .unset, .unset, .unset, .unset] [(.int r1), (.long v9)]) (fun t k => XS.iloadN X1.here hx rfl (hb hby at_12) rfl k) ?_
  refine own_go (mkF m 14 #[.val (.long q1), .second, .val (.int r1), .val (.long v9), .second, .unset, .unset, .unset, .unset] [(.long (r1.toInt64)), (.long v9)]) (fun t k => XS.i2l X1.here hx rfl (hb hby at_13) rfl k) ?_
  generalize hv13 : (r1.toInt64) = v13
  have f13 : v13.toInt = r1.toInt := by rw [← hv13]; exact c_i2l r1
  have r13 := rng64 v13
  refine own_go (mkF m 15 #[.val (.long q1), .second, .val (.int r1), .val (.long v9), .second, .unset, .unset, .unset, .unset] [(.long (v9 + v13))]) (fun t k => XS.ladd X1.here hx rfl (hb hby at_14) rfl k) ?_
  generalize hv14 : (v9 + v13) = v14
  have f14 : (v14.toInt - (v9.toInt + v13.toInt)) % 18446744073709551616 = 0 := by rw [← hv14]; exact c_ladd v9 v13
  have r14 := rng64 v14
  replace f14 : v14.toInt = v9.toInt + r1.toInt := by clear f9 hr1; omega
  have k14 : v14.toInt = 0 ∨ v14.toInt = 2880 := by clear r13 r14 rr1 r9; omega
  clear f9 hr1
  refine own_go (mkF m 17 #[.val (.long q1), .second, .val (.int r1), .val (.long v9), .second, .val (.long v14), .second, .unset, .unset] []) (fun t k => XS.lstore X1.here hx rfl (hb hby at_15) rfl (l' := #[.val (.long q1), .second, .val (.int r1), .val (.long v9), .second, .val (.long v14), .second, .unset, .unset]) rfl k) ?_
  refine own_go (mkF m 18 #[.val (.long q1), .second, .val (.int r1), .val (.long v9), .second, .val (.long v14), .second, .unset, .unset] [(.int r1)]) (fun t k => XS.iloadN X1.here hx rfl (hb hby at_17) rfl k) ?_
  by_cases c18 : r1.toInt < 0
  · skip
    refine own_go (mkF m 32 #[.val (.long q1), .second, .val (.int r1), .val (.long v9), .second, .val (.long v14), .second, .unset, .unset] []) (fun t k => XS.ifYes X1.here hx rfl (pc0 := 18) (pc' := 32) rfl (hb hby at_18) rfl (own_zT (cd := .lt) c18) (by decide) (by decide) k) ?_
    refine own_go (mkF m 33 #[.val (.long q1), .second, .val (.int r1), .val (.long v9), .second, .val (.long v14), .second, .unset, .unset] [(.int (0 : Int32))]) (fun t k => XS.iconst X1.here hx rfl (hb hby at_32) k) ?_
    refine own_go (mkF m 35 #[.val (.long q1), .second, .val (.int r1), .val (.long v9), .second, .val (.long v14), .second, .val (.int (0 : Int32)), .unset] []) (fun t k => XS.istore X1.here hx rfl (hb hby at_33) rfl (l' := #[.val (.long q1), .second, .val (.int r1), .val (.long v9), .second, .val (.long v14), .second, .val (.int (0 : Int32)), .unset]) rfl k) ?_
    refine own_go (mkF m 37 #[.val (.long q1), .second, .val (.int r1), .val (.long v9), .second, .val (.long v14), .second, .val (.int (0 : Int32)), .unset] [(.long v14)]) (fun t k => XS.lload X1.here hx rfl (hb hby at_35) rfl k) ?_
    refine own_go (mkF m 38 #[.val (.long q1), .second, .val (.int r1), .val (.long v9), .second, .val (.long v14), .second, .val (.int (0 : Int32)), .unset] [(.long (0 : Int64)), (.long v14)]) (fun t k => XS.lconst X1.here hx rfl (hb hby at_37) k) ?_
    refine own_go (mkF m 39 #[.val (.long q1), .second, .val (.int r1), .val (.long v9), .second, .val (.long v14), .second, .val (.int (0 : Int32)), .unset] [(.int (lcmpW v14 (0 : Int64)))]) (fun t k => XS.lcmp X1.here hx rfl (hb hby at_38) rfl k) ?_
    by_cases c39 : v14.toInt = 0
    · skip
      refine own_go (mkF m 51 #[.val (.long q1), .second, .val (.int r1), .val (.long v9), .second, .val (.long v14), .second, .val (.int (0 : Int32)), .unset] []) (fun t k => XS.ifYes X1.here hx rfl (pc0 := 39) (pc' := 51) rfl (hb hby at_39) rfl (own_lcT (cd := .eq) c39) (by decide) (by decide) k) ?_
      refine own_go (mkF m 52 #[.val (.long q1), .second, .val (.int r1), .val (.long v9), .second, .val (.long v14), .second, .val (.int (0 : Int32)), .unset] [(.int (1 : Int32))]) (fun t k => XS.iconst X1.here hx rfl (hb hby at_51) k) ?_
      refine own_go (mkF m 56 #[.val (.long q1), .second, .val (.int r1), .val (.long v9), .second, .val (.long v14), .second, .val (.int (0 : Int32)), .unset] [(.int (1 : Int32))]) (fun t k => XS.goto X1.here hx rfl (pc0 := 52) (pc' := 56) rfl (hb hby at_52) (by decide) (by decide) k) ?_
      refine own_go (mkF m 58 #[.val (.long q1), .second, .val (.int r1), .val (.long v9), .second, .val (.long v14), .second, .val (.int (0 : Int32)), .val (.int (1 : Int32))] []) (fun t k => XS.istore X1.here hx rfl (hb hby at_56) rfl (l' := #[.val (.long q1), .second, .val (.int r1), .val (.long v9), .second, .val (.long v14), .second, .val (.int (0 : Int32)), .val (.int (1 : Int32))]) rfl k) ?_
      refine own_go (mkF m 60 #[.val (.long q1), .second, .val (.int r1), .val (.long v9), .second, .val (.long v14), .second, .val (.int (0 : Int32)), .val (.int (1 : Int32))] [(.int (0 : Int32))]) (fun t k => XS.iload X1.here hx rfl (hb hby at_58) rfl k) ?_
      refine own_go (mkF m 72 #[.val (.long q1), .second, .val (.int r1), .val (.long v9), .second, .val (.long v14), .second, .val (.int (0 : Int32)), .val (.int (1 : Int32))] []) (fun t k => XS.ifYes X1.here hx rfl (pc0 := 60) (pc' := 72) rfl (hb hby at_60) rfl (by decide) (by decide) (by decide) k) ?_
      refine own_go (mkF m 73 #[.val (.long q1), .second, .val (.int r1), .val (.long v9), .second, .val (.long v14), .second, .val (.int (0 : Int32)), .val (.int (1 : Int32))] [(.int (0 : Int32))]) (fun t k => XS.iconst X1.here hx rfl (hb hby at_72) k) ?_
      refine own_retI X1 hx hlk hret (by simp) rfl (hb hby at_73) (by decide) (by decide) ?_
      rw [e1]
      exfalso
      omega
    · skip
      refine own_go (mkF m 42 #[.val (.long q1), .second, .val (.int r1), .val (.long v9), .second, .val (.long v14), .second, .val (.int (0 : Int32)), .unset] []) (fun t k => XS.ifNo X1.here hx rfl (hb hby at_39) rfl (own_lcF (cd := .eq) c39) k) ?_
      refine own_go (mkF m 44 #[.val (.long q1), .second, .val (.int r1), .val (.long v9), .second, .val (.long v14), .second, .val (.int (0 : Int32)), .unset] [(.long v14)]) (fun t k => XS.lload X1.here hx rfl (hb hby at_42) rfl k) ?_
      refine own_go (mkF m 47 #[.val (.long q1), .second, .val (.int r1), .val (.long v9), .second, .val (.long v14), .second, .val (.int (0 : Int32)), .unset] [(.long (2880 : Int64)), (.long v14)]) (fun t k => X1.ldc2Long hx hown (mvT hZ (hw _ (List.mem_of_getElem? (i := 5) rfl))) (g := (mkF m 44 #[.val (.long q1), .second, .val (.int r1), .val (.long v9), .second, .val (.long v14), .second, .val (.int (0 : Int32)), .unset] [(.long v14)])) rfl (hb hby at_44) _ k) ?_
      refine own_go (mkF m 48 #[.val (.long q1), .second, .val (.int r1), .val (.long v9), .second, .val (.long v14), .second, .val (.int (0 : Int32)), .unset] [(.int (lcmpW v14 (2880 : Int64)))]) (fun t k => XS.lcmp X1.here hx rfl (hb hby at_47) rfl k) ?_
      by_cases c48 : v14.toInt = 2880
      · skip
        refine own_go (mkF m 51 #[.val (.long q1), .second, .val (.int r1), .val (.long v9), .second, .val (.long v14), .second, .val (.int (0 : Int32)), .unset] []) (fun t k => XS.ifNo X1.here hx rfl (hb hby at_48) rfl (own_lcF (cd := .ne) (fun q => q c48)) k) ?_
        refine own_go (mkF m 52 #[.val (.long q1), .second, .val (.int r1), .val (.long v9), .second, .val (.long v14), .second, .val (.int (0 : Int32)), .unset] [(.int (1 : Int32))]) (fun t k => XS.iconst X1.here hx rfl (hb hby at_51) k) ?_
        refine own_go (mkF m 56 #[.val (.long q1), .second, .val (.int r1), .val (.long v9), .second, .val (.long v14), .second, .val (.int (0 : Int32)), .unset] [(.int (1 : Int32))]) (fun t k => XS.goto X1.here hx rfl (pc0 := 52) (pc' := 56) rfl (hb hby at_52) (by decide) (by decide) k) ?_
        refine own_go (mkF m 58 #[.val (.long q1), .second, .val (.int r1), .val (.long v9), .second, .val (.long v14), .second, .val (.int (0 : Int32)), .val (.int (1 : Int32))] []) (fun t k => XS.istore X1.here hx rfl (hb hby at_56) rfl (l' := #[.val (.long q1), .second, .val (.int r1), .val (.long v9), .second, .val (.long v14), .second, .val (.int (0 : Int32)), .val (.int (1 : Int32))]) rfl k) ?_
        refine own_go (mkF m 60 #[.val (.long q1), .second, .val (.int r1), .val (.long v9), .second, .val (.long v14), .second, .val (.int (0 : Int32)), .val (.int (1 : Int32))] [(.int (0 : Int32))]) (fun t k => XS.iload X1.here hx rfl (hb hby at_58) rfl k) ?_
        refine own_go (mkF m 72 #[.val (.long q1), .second, .val (.int r1), .val (.long v9), .second, .val (.long v14), .second, .val (.int (0 : Int32)), .val (.int (1 : Int32))] []) (fun t k => XS.ifYes X1.here hx rfl (pc0 := 60) (pc' := 72) rfl (hb hby at_60) rfl (by decide) (by decide) (by decide) k) ?_
        refine own_go (mkF m 73 #[.val (.long q1), .second, .val (.int r1), .val (.long v9), .second, .val (.long v14), .second, .val (.int (0 : Int32)), .val (.int (1 : Int32))] [(.int (0 : Int32))]) (fun t k => XS.iconst X1.here hx rfl (hb hby at_72) k) ?_
        refine own_retI X1 hx hlk hret (by simp) rfl (hb hby at_73) (by decide) (by decide) ?_
        rw [e1]
        exfalso
        omega
      · skip
        refine own_go (mkF m 55 #[.val (.long q1), .second, .val (.int r1), .val (.long v9), .second, .val (.long v14), .second, .val (.int (0 : Int32)), .unset] []) (fun t k => XS.ifYes X1.here hx rfl (pc0 := 48) (pc' := 55) rfl (hb hby at_48) rfl (own_lcT (cd := .ne) c48) (by decide) (by decide) k) ?_
        refine own_go (mkF m 56 #[.val (.long q1), .second, .val (.int r1), .val (.long v9), .second, .val (.long v14), .second, .val (.int (0 : Int32)), .unset] [(.int (0 : Int32))]) (fun t k => XS.iconst X1.here hx rfl (hb hby at_55) k) ?_
        refine own_go (mkF m 58 #[.val (.long q1), .second, .val (.int r1), .val (.long v9), .second, .val (.long v14), .second, .val (.int (0 : Int32)), .val (.int (0 : Int32))] []) (fun t k => XS.istore X1.here hx rfl (hb hby at_56) rfl (l' := #[.val (.long q1), .second, .val (.int r1), .val (.long v9), .second, .val (.long v14), .second, .val (.int (0 : Int32)), .val (.int (0 : Int32))]) rfl k) ?_
        refine own_go (mkF m 60 #[.val (.long q1), .second, .val (.int r1), .val (.long v9), .second, .val (.long v14), .second, .val (.int (0 : Int32)), .val (.int (0 : Int32))] [(.int (0 : Int32))]) (fun t k => XS.iload X1.here hx rfl (hb hby at_58) rfl k) ?_
        refine own_go (mkF m 72 #[.val (.long q1), .second, .val (.int r1), .val (.long v9), .second, .val (.long v14), .second, .val (.int (0 : Int32)), .val (.int (0 : Int32))] []) (fun t k => XS.ifYes X1.here hx rfl (pc0 := 60) (pc' := 72) rfl (hb hby at_60) rfl (by decide) (by decide) (by decide) k) ?_
        refine own_go (mkF m 73 #[.val (.long q1), .second, .val (.int r1), .val (.long v9), .second, .val (.long v14), .second, .val (.int (0 : Int32)), .val (.int (0 : Int32))] [(.int (0 : Int32))]) (fun t k => XS.iconst X1.here hx rfl (hb hby at_72) k) ?_
        refine own_retI X1 hx hlk hret (by simp) rfl (hb hby at_73) (by decide) (by decide) ?_
        rw [e1]
        exfalso
        omega
  · skip
    refine own_go (mkF m 21 #[.val (.long q1), .second, .val (.int r1), .val (.long v9), .second, .val (.long v14), .second, .unset, .unset] []) (fun t k => XS.ifNo X1.here hx rfl (hb hby at_18) rfl (own_zF (cd := .lt) c18) k) ?_
    refine own_go (mkF m 22 #[.val (.long q1), .second, .val (.int r1), .val (.long v9), .second, .val (.long v14), .second, .unset, .unset] [(.int r1)]) (fun t k => XS.iloadN X1.here hx rfl (hb hby at_21) rfl k) ?_
    refine own_go (mkF m 25 #[.val (.long q1), .second, .val (.int r1), .val (.long v9), .second, .val (.long v14), .second, .unset, .unset] [(.int (2880 : Int32)), (.int r1)]) (fun t k => XS.sipush X1.here hx rfl (hb hby at_22) k) ?_
    by_cases c25 : 2880 ≤ r1.toInt
    · skip
      refine own_go (mkF m 32 #[.val (.long q1), .second, .val (.int r1), .val (.long v9), .second, .val (.long v14), .second, .unset, .unset] []) (fun t k => XS.icmpYes X1.here hx rfl (pc0 := 25) (pc' := 32) rfl (hb hby at_25) rfl (own_icT (cd := .ge) c25) (by decide) (by decide) k) ?_
      refine own_go (mkF m 33 #[.val (.long q1), .second, .val (.int r1), .val (.long v9), .second, .val (.long v14), .second, .unset, .unset] [(.int (0 : Int32))]) (fun t k => XS.iconst X1.here hx rfl (hb hby at_32) k) ?_
      refine own_go (mkF m 35 #[.val (.long q1), .second, .val (.int r1), .val (.long v9), .second, .val (.long v14), .second, .val (.int (0 : Int32)), .unset] []) (fun t k => XS.istore X1.here hx rfl (hb hby at_33) rfl (l' := #[.val (.long q1), .second, .val (.int r1), .val (.long v9), .second, .val (.long v14), .second, .val (.int (0 : Int32)), .unset]) rfl k) ?_
      refine own_go (mkF m 37 #[.val (.long q1), .second, .val (.int r1), .val (.long v9), .second, .val (.long v14), .second, .val (.int (0 : Int32)), .unset] [(.long v14)]) (fun t k => XS.lload X1.here hx rfl (hb hby at_35) rfl k) ?_
      refine own_go (mkF m 38 #[.val (.long q1), .second, .val (.int r1), .val (.long v9), .second, .val (.long v14), .second, .val (.int (0 : Int32)), .unset] [(.long (0 : Int64)), (.long v14)]) (fun t k => XS.lconst X1.here hx rfl (hb hby at_37) k) ?_
      refine own_go (mkF m 39 #[.val (.long q1), .second, .val (.int r1), .val (.long v9), .second, .val (.long v14), .second, .val (.int (0 : Int32)), .unset] [(.int (lcmpW v14 (0 : Int64)))]) (fun t k => XS.lcmp X1.here hx rfl (hb hby at_38) rfl k) ?_
      by_cases c39 : v14.toInt = 0
      · skip
        refine own_go (mkF m 51 #[.val (.long q1), .second, .val (.int r1), .val (.long v9), .second, .val (.long v14), .second, .val (.int (0 : Int32)), .unset] []) (fun t k => XS.ifYes X1.here hx rfl (pc0 := 39) (pc' := 51) rfl (hb hby at_39) rfl (own_lcT (cd := .eq) c39) (by decide) (by decide) k) ?_
        refine own_go (mkF m 52 #[.val (.long q1), .second, .val (.int r1), .val (.long v9), .second, .val (.long v14), .second, .val (.int (0 : Int32)), .unset] [(.int (1 : Int32))]) (fun t k => XS.iconst X1.here hx rfl (hb hby at_51) k) ?_
        refine own_go (mkF m 56 #[.val (.long q1), .second, .val (.int r1), .val (.long v9), .second, .val (.long v14), .second, .val (.int (0 : Int32)), .unset] [(.int (1 : Int32))]) (fun t k => XS.goto X1.here hx rfl (pc0 := 52) (pc' := 56) rfl (hb hby at_52) (by decide) (by decide) k) ?_
        refine own_go (mkF m 58 #[.val (.long q1), .second, .val (.int r1), .val (.long v9), .second, .val (.long v14), .second, .val (.int (0 : Int32)), .val (.int (1 : Int32))] []) (fun t k => XS.istore X1.here hx rfl (hb hby at_56) rfl (l' := #[.val (.long q1), .second, .val (.int r1), .val (.long v9), .second, .val (.long v14), .second, .val (.int (0 : Int32)), .val (.int (1 : Int32))]) rfl k) ?_
        refine own_go (mkF m 60 #[.val (.long q1), .second, .val (.int r1), .val (.long v9), .second, .val (.long v14), .second, .val (.int (0 : Int32)), .val (.int (1 : Int32))] [(.int (0 : Int32))]) (fun t k => XS.iload X1.here hx rfl (hb hby at_58) rfl k) ?_
        refine own_go (mkF m 72 #[.val (.long q1), .second, .val (.int r1), .val (.long v9), .second, .val (.long v14), .second, .val (.int (0 : Int32)), .val (.int (1 : Int32))] []) (fun t k => XS.ifYes X1.here hx rfl (pc0 := 60) (pc' := 72) rfl (hb hby at_60) rfl (by decide) (by decide) (by decide) k) ?_
        refine own_go (mkF m 73 #[.val (.long q1), .second, .val (.int r1), .val (.long v9), .second, .val (.long v14), .second, .val (.int (0 : Int32)), .val (.int (1 : Int32))] [(.int (0 : Int32))]) (fun t k => XS.iconst X1.here hx rfl (hb hby at_72) k) ?_
        refine own_retI X1 hx hlk hret (by simp) rfl (hb hby at_73) (by decide) (by decide) ?_
        rw [e1]
        exfalso
        omega
      · skip
        refine own_go (mkF m 42 #[.val (.long q1), .second, .val (.int r1), .val (.long v9), .second, .val (.long v14), .second, .val (.int (0 : Int32)), .unset] []) (fun t k => XS.ifNo X1.here hx rfl (hb hby at_39) rfl (own_lcF (cd := .eq) c39) k) ?_
        refine own_go (mkF m 44 #[.val (.long q1), .second, .val (.int r1), .val (.long v9), .second, .val (.long v14), .second, .val (.int (0 : Int32)), .unset] [(.long v14)]) (fun t k => XS.lload X1.here hx rfl (hb hby at_42) rfl k) ?_
        refine own_go (mkF m 47 #[.val (.long q1), .second, .val (.int r1), .val (.long v9), .second, .val (.long v14), .second, .val (.int (0 : Int32)), .unset] [(.long (2880 : Int64)), (.long v14)]) (fun t k => X1.ldc2Long hx hown (mvT hZ (hw _ (List.mem_of_getElem? (i := 5) rfl))) (g := (mkF m 44 #[.val (.long q1), .second, .val (.int r1), .val (.long v9), .second, .val (.long v14), .second, .val (.int (0 : Int32)), .unset] [(.long v14)])) rfl (hb hby at_44) _ k) ?_
        refine own_go (mkF m 48 #[.val (.long q1), .second, .val (.int r1), .val (.long v9), .second, .val (.long v14), .second, .val (.int (0 : Int32)), .unset] [(.int (lcmpW v14 (2880 : Int64)))]) (fun t k => XS.lcmp X1.here hx rfl (hb hby at_47) rfl k) ?_
        by_cases c48 : v14.toInt = 2880
        · skip
          refine own_go (mkF m 51 #[.val (.long q1), .second, .val (.int r1), .val (.long v9), .second, .val (.long v14), .second, .val (.int (0 : Int32)), .unset] []) (fun t k => XS.ifNo X1.here hx rfl (hb hby at_48) rfl (own_lcF (cd := .ne) (fun q => q c48)) k) ?_
          refine own_go (mkF m 52 #[.val (.long q1), .second, .val (.int r1), .val (.long v9), .second, .val (.long v14), .second, .val (.int (0 : Int32)), .unset] [(.int (1 : Int32))]) (fun t k => XS.iconst X1.here hx rfl (hb hby at_51) k) ?_
          refine own_go (mkF m 56 #[.val (.long q1), .second, .val (.int r1), .val (.long v9), .second, .val (.long v14), .second, .val (.int (0 : Int32)), .unset] [(.int (1 : Int32))]) (fun t k => XS.goto X1.here hx rfl (pc0 := 52) (pc' := 56) rfl (hb hby at_52) (by decide) (by decide) k) ?_
          refine own_go (mkF m 58 #[.val (.long q1), .second, .val (.int r1), .val (.long v9), .second, .val (.long v14), .second, .val (.int (0 : Int32)), .val (.int (1 : Int32))] []) (fun t k => XS.istore X1.here hx rfl (hb hby at_56) rfl (l' := #[.val (.long q1), .second, .val (.int r1), .val (.long v9), .second, .val (.long v14), .second, .val (.int (0 : Int32)), .val (.int (1 : Int32))]) rfl k) ?_
          refine own_go (mkF m 60 #[.val (.long q1), .second, .val (.int r1), .val (.long v9), .second, .val (.long v14), .second, .val (.int (0 : Int32)), .val (.int (1 : Int32))] [(.int (0 : Int32))]) (fun t k => XS.iload X1.here hx rfl (hb hby at_58) rfl k) ?_
          refine own_go (mkF m 72 #[.val (.long q1), .second, .val (.int r1), .val (.long v9), .second, .val (.long v14), .second, .val (.int (0 : Int32)), .val (.int (1 : Int32))] []) (fun t k => XS.ifYes X1.here hx rfl (pc0 := 60) (pc' := 72) rfl (hb hby at_60) rfl (by decide) (by decide) (by decide) k) ?_
          refine own_go (mkF m 73 #[.val (.long q1), .second, .val (.int r1), .val (.long v9), .second, .val (.long v14), .second, .val (.int (0 : Int32)), .val (.int (1 : Int32))] [(.int (0 : Int32))]) (fun t k => XS.iconst X1.here hx rfl (hb hby at_72) k) ?_
          refine own_retI X1 hx hlk hret (by simp) rfl (hb hby at_73) (by decide) (by decide) ?_
          rw [e1]
          exfalso
          omega
        · skip
          refine own_go (mkF m 55 #[.val (.long q1), .second, .val (.int r1), .val (.long v9), .second, .val (.long v14), .second, .val (.int (0 : Int32)), .unset] []) (fun t k => XS.ifYes X1.here hx rfl (pc0 := 48) (pc' := 55) rfl (hb hby at_48) rfl (own_lcT (cd := .ne) c48) (by decide) (by decide) k) ?_
          refine own_go (mkF m 56 #[.val (.long q1), .second, .val (.int r1), .val (.long v9), .second, .val (.long v14), .second, .val (.int (0 : Int32)), .unset] [(.int (0 : Int32))]) (fun t k => XS.iconst X1.here hx rfl (hb hby at_55) k) ?_
          refine own_go (mkF m 58 #[.val (.long q1), .second, .val (.int r1), .val (.long v9), .second, .val (.long v14), .second, .val (.int (0 : Int32)), .val (.int (0 : Int32))] []) (fun t k => XS.istore X1.here hx rfl (hb hby at_56) rfl (l' := #[.val (.long q1), .second, .val (.int r1), .val (.long v9), .second, .val (.long v14), .second, .val (.int (0 : Int32)), .val (.int (0 : Int32))]) rfl k) ?_
          refine own_go (mkF m 60 #[.val (.long q1), .second, .val (.int r1), .val (.long v9), .second, .val (.long v14), .second, .val (.int (0 : Int32)), .val (.int (0 : Int32))] [(.int (0 : Int32))]) (fun t k => XS.iload X1.here hx rfl (hb hby at_58) rfl k) ?_
          refine own_go (mkF m 72 #[.val (.long q1), .second, .val (.int r1), .val (.long v9), .second, .val (.long v14), .second, .val (.int (0 : Int32)), .val (.int (0 : Int32))] []) (fun t k => XS.ifYes X1.here hx rfl (pc0 := 60) (pc' := 72) rfl (hb hby at_60) rfl (by decide) (by decide) (by decide) k) ?_
          refine own_go (mkF m 73 #[.val (.long q1), .second, .val (.int r1), .val (.long v9), .second, .val (.long v14), .second, .val (.int (0 : Int32)), .val (.int (0 : Int32))] [(.int (0 : Int32))]) (fun t k => XS.iconst X1.here hx rfl (hb hby at_72) k) ?_
          refine own_retI X1 hx hlk hret (by simp) rfl (hb hby at_73) (by decide) (by decide) ?_
          rw [e1]
          exfalso
          omega
    · skip
      refine own_go (mkF m 28 #[.val (.long q1), .second, .val (.int r1), .val (.long v9), .second, .val (.long v14), .second, .unset, .unset] []) (fun t k => XS.icmpNo X1.here hx rfl (hb hby at_25) rfl (own_icF (cd := .ge) c25) k) ?_
      refine own_go (mkF m 29 #[.val (.long q1), .second, .val (.int r1), .val (.long v9), .second, .val (.long v14), .second, .unset, .unset] [(.int (1 : Int32))]) (fun t k => XS.iconst X1.here hx rfl (hb hby at_28) k) ?_
      refine own_go (mkF m 33 #[.val (.long q1), .second, .val (.int r1), .val (.long v9), .second, .val (.long v14), .second, .unset, .unset] [(.int (1 : Int32))]) (fun t k => XS.goto X1.here hx rfl (pc0 := 29) (pc' := 33) rfl (hb hby at_29) (by decide) (by decide) k) ?_
      refine own_go (mkF m 35 #[.val (.long q1), .second, .val (.int r1), .val (.long v9), .second, .val (.long v14), .second, .val (.int (1 : Int32)), .unset] []) (fun t k => XS.istore X1.here hx rfl (hb hby at_33) rfl (l' := #[.val (.long q1), .second, .val (.int r1), .val (.long v9), .second, .val (.long v14), .second, .val (.int (1 : Int32)), .unset]) rfl k) ?_
      refine own_go (mkF m 37 #[.val (.long q1), .second, .val (.int r1), .val (.long v9), .second, .val (.long v14), .second, .val (.int (1 : Int32)), .unset] [(.long v14)]) (fun t k => XS.lload X1.here hx rfl (hb hby at_35) rfl k) ?_
      refine own_go (mkF m 38 #[.val (.long q1), .second, .val (.int r1), .val (.long v9), .second, .val (.long v14), .second, .val (.int (1 : Int32)), .unset] [(.long (0 : Int64)), (.long v14)]) (fun t k => XS.lconst X1.here hx rfl (hb hby at_37) k) ?_
      refine own_go (mkF m 39 #[.val (.long q1), .second, .val (.int r1), .val (.long v9), .second, .val (.long v14), .second, .val (.int (1 : Int32)), .unset] [(.int (lcmpW v14 (0 : Int64)))]) (fun t k => XS.lcmp X1.here hx rfl (hb hby at_38) rfl k) ?_
      by_cases c39 : v14.toInt = 0
      · skip
        refine own_go (mkF m 51 #[.val (.long q1), .second, .val (.int r1), .val (.long v9), .second, .val (.long v14), .second, .val (.int (1 : Int32)), .unset] []) (fun t k => XS.ifYes X1.here hx rfl (pc0 := 39) (pc' := 51) rfl (hb hby at_39) rfl (own_lcT (cd := .eq) c39) (by decide) (by decide) k) ?_
        refine own_go (mkF m 52 #[.val (.long q1), .second, .val (.int r1), .val (.long v9), .second, .val (.long v14), .second, .val (.int (1 : Int32)), .unset] [(.int (1 : Int32))]) (fun t k => XS.iconst X1.here hx rfl (hb hby at_51) k) ?_
        refine own_go (mkF m 56 #[.val (.long q1), .second, .val (.int r1), .val (.long v9), .second, .val (.long v14), .second, .val (.int (1 : Int32)), .unset] [(.int (1 : Int32))]) (fun t k => XS.goto X1.here hx rfl (pc0 := 52) (pc' := 56) rfl (hb hby at_52) (by decide) (by decide) k) ?_
        refine own_go (mkF m 58 #[.val (.long q1), .second, .val (.int r1), .val (.long v9), .second, .val (.long v14), .second, .val (.int (1 : Int32)), .val (.int (1 : Int32))] []) (fun t k => XS.istore X1.here hx rfl (hb hby at_56) rfl (l' := #[.val (.long q1), .second, .val (.int r1), .val (.long v9), .second, .val (.long v14), .second, .val (.int (1 : Int32)), .val (.int (1 : Int32))]) rfl k) ?_
        refine own_go (mkF m 60 #[.val (.long q1), .second, .val (.int r1), .val (.long v9), .second, .val (.long v14), .second, .val (.int (1 : Int32)), .val (.int (1 : Int32))] [(.int (1 : Int32))]) (fun t k => XS.iload X1.here hx rfl (hb hby at_58) rfl k) ?_
        refine own_go (mkF m 63 #[.val (.long q1), .second, .val (.int r1), .val (.long v9), .second, .val (.long v14), .second, .val (.int (1 : Int32)), .val (.int (1 : Int32))] []) (fun t k => XS.ifNo X1.here hx rfl (hb hby at_60) rfl (by decide) k) ?_
        refine own_go (mkF m 65 #[.val (.long q1), .second, .val (.int r1), .val (.long v9), .second, .val (.long v14), .second, .val (.int (1 : Int32)), .val (.int (1 : Int32))] [(.int (1 : Int32))]) (fun t k => XS.iload X1.here hx rfl (hb hby at_63) rfl k) ?_
        refine own_go (mkF m 68 #[.val (.long q1), .second, .val (.int r1), .val (.long v9), .second, .val (.long v14), .second, .val (.int (1 : Int32)), .val (.int (1 : Int32))] []) (fun t k => XS.ifNo X1.here hx rfl (hb hby at_65) rfl (by decide) k) ?_
        refine own_go (mkF m 69 #[.val (.long q1), .second, .val (.int r1), .val (.long v9), .second, .val (.long v14), .second, .val (.int (1 : Int32)), .val (.int (1 : Int32))] [(.int (1 : Int32))]) (fun t k => XS.iconst X1.here hx rfl (hb hby at_68) k) ?_
        refine own_go (mkF m 73 #[.val (.long q1), .second, .val (.int r1), .val (.long v9), .second, .val (.long v14), .second, .val (.int (1 : Int32)), .val (.int (1 : Int32))] [(.int (1 : Int32))]) (fun t k => XS.goto X1.here hx rfl (pc0 := 69) (pc' := 73) rfl (hb hby at_69) (by decide) (by decide) k) ?_
        refine own_retI X1 hx hlk hret (by simp) rfl (hb hby at_73) (by decide) (by decide) ?_
        rw [e1]
        exact ⟨rfl, N1⟩
      · skip
        refine own_go (mkF m 42 #[.val (.long q1), .second, .val (.int r1), .val (.long v9), .second, .val (.long v14), .second, .val (.int (1 : Int32)), .unset] []) (fun t k => XS.ifNo X1.here hx rfl (hb hby at_39) rfl (own_lcF (cd := .eq) c39) k) ?_
        refine own_go (mkF m 44 #[.val (.long q1), .second, .val (.int r1), .val (.long v9), .second, .val (.long v14), .second, .val (.int (1 : Int32)), .unset] [(.long v14)]) (fun t k => XS.lload X1.here hx rfl (hb hby at_42) rfl k) ?_
        refine own_go (mkF m 47 #[.val (.long q1), .second, .val (.int r1), .val (.long v9), .second, .val (.long v14), .second, .val (.int (1 : Int32)), .unset] [(.long (2880 : Int64)), (.long v14)]) (fun t k => X1.ldc2Long hx hown (mvT hZ (hw _ (List.mem_of_getElem? (i := 5) rfl))) (g := (mkF m 44 #[.val (.long q1), .second, .val (.int r1), .val (.long v9), .second, .val (.long v14), .second, .val (.int (1 : Int32)), .unset] [(.long v14)])) rfl (hb hby at_44) _ k) ?_
        refine own_go (mkF m 48 #[.val (.long q1), .second, .val (.int r1), .val (.long v9), .second, .val (.long v14), .second, .val (.int (1 : Int32)), .unset] [(.int (lcmpW v14 (2880 : Int64)))]) (fun t k => XS.lcmp X1.here hx rfl (hb hby at_47) rfl k) ?_
        by_cases c48 : v14.toInt = 2880
        · skip
          refine own_go (mkF m 51 #[.val (.long q1), .second, .val (.int r1), .val (.long v9), .second, .val (.long v14), .second, .val (.int (1 : Int32)), .unset] []) (fun t k => XS.ifNo X1.here hx rfl (hb hby at_48) rfl (own_lcF (cd := .ne) (fun q => q c48)) k) ?_
          refine own_go (mkF m 52 #[.val (.long q1), .second, .val (.int r1), .val (.long v9), .second, .val (.long v14), .second, .val (.int (1 : Int32)), .unset] [(.int (1 : Int32))]) (fun t k => XS.iconst X1.here hx rfl (hb hby at_51) k) ?_
          refine own_go (mkF m 56 #[.val (.long q1), .second, .val (.int r1), .val (.long v9), .second, .val (.long v14), .second, .val (.int (1 : Int32)), .unset] [(.int (1 : Int32))]) (fun t k => XS.goto X1.here hx rfl (pc0 := 52) (pc' := 56) rfl (hb hby at_52) (by decide) (by decide) k) ?_
          refine own_go (mkF m 58 #[.val (.long q1), .second, .val (.int r1), .val (.long v9), .second, .val (.long v14), .second, .val (.int (1 : Int32)), .val (.int (1 : Int32))] []) (fun t k => XS.istore X1.here hx rfl (hb hby at_56) rfl (l' := #[.val (.long q1), .second, .val (.int r1), .val (.long v9), .second, .val (.long v14), .second, .val (.int (1 : Int32)), .val (.int (1 : Int32))]) rfl k) ?_
          refine own_go (mkF m 60 #[.val (.long q1), .second, .val (.int r1), .val (.long v9), .second, .val (.long v14), .second, .val (.int (1 : Int32)), .val (.int (1 : Int32))] [(.int (1 : Int32))]) (fun t k => XS.iload X1.here hx rfl (hb hby at_58) rfl k) ?_
          refine own_go (mkF m 63 #[.val (.long q1), .second, .val (.int r1), .val (.long v9), .second, .val (.long v14), .second, .val (.int (1 : Int32)), .val (.int (1 : Int32))] []) (fun t k => XS.ifNo X1.here hx rfl (hb hby at_60) rfl (by decide) k) ?_
          refine own_go (mkF m 65 #[.val (.long q1), .second, .val (.int r1), .val (.long v9), .second, .val (.long v14), .second, .val (.int (1 : Int32)), .val (.int (1 : Int32))] [(.int (1 : Int32))]) (fun t k => XS.iload X1.here hx rfl (hb hby at_63) rfl k) ?_
          refine own_go (mkF m 68 #[.val (.long q1), .second, .val (.int r1), .val (.long v9), .second, .val (.long v14), .second, .val (.int (1 : Int32)), .val (.int (1 : Int32))] []) (fun t k => XS.ifNo X1.here hx rfl (hb hby at_65) rfl (by decide) k) ?_
          refine own_go (mkF m 69 #[.val (.long q1), .second, .val (.int r1), .val (.long v9), .second, .val (.long v14), .second, .val (.int (1 : Int32)), .val (.int (1 : Int32))] [(.int (1 : Int32))]) (fun t k => XS.iconst X1.here hx rfl (hb hby at_68) k) ?_
          refine own_go (mkF m 73 #[.val (.long q1), .second, .val (.int r1), .val (.long v9), .second, .val (.long v14), .second, .val (.int (1 : Int32)), .val (.int (1 : Int32))] [(.int (1 : Int32))]) (fun t k => XS.goto X1.here hx rfl (pc0 := 69) (pc' := 73) rfl (hb hby at_69) (by decide) (by decide) k) ?_
          refine own_retI X1 hx hlk hret (by simp) rfl (hb hby at_73) (by decide) (by decide) ?_
          rw [e1]
          exact ⟨rfl, N1⟩
        · skip
          refine own_go (mkF m 55 #[.val (.long q1), .second, .val (.int r1), .val (.long v9), .second, .val (.long v14), .second, .val (.int (1 : Int32)), .unset] []) (fun t k => XS.ifYes X1.here hx rfl (pc0 := 48) (pc' := 55) rfl (hb hby at_48) rfl (own_lcT (cd := .ne) c48) (by decide) (by decide) k) ?_
          refine own_go (mkF m 56 #[.val (.long q1), .second, .val (.int r1), .val (.long v9), .second, .val (.long v14), .second, .val (.int (1 : Int32)), .unset] [(.int (0 : Int32))]) (fun t k => XS.iconst X1.here hx rfl (hb hby at_55) k) ?_
          refine own_go (mkF m 58 #[.val (.long q1), .second, .val (.int r1), .val (.long v9), .second, .val (.long v14), .second, .val (.int (1 : Int32)), .val (.int (0 : Int32))] []) (fun t k => XS.istore X1.here hx rfl (hb hby at_56) rfl (l' := #[.val (.long q1), .second, .val (.int r1), .val (.long v9), .second, .val (.long v14), .second, .val (.int (1 : Int32)), .val (.int (0 : Int32))]) rfl k) ?_
          refine own_go (mkF m 60 #[.val (.long q1), .second, .val (.int r1), .val (.long v9), .second, .val (.long v14), .second, .val (.int (1 : Int32)), .val (.int (0 : Int32))] [(.int (1 : Int32))]) (fun t k => XS.iload X1.here hx rfl (hb hby at_58) rfl k) ?_
          refine own_go (mkF m 63 #[.val (.long q1), .second, .val (.int r1), .val (.long v9), .second, .val (.long v14), .second, .val (.int (1 : Int32)), .val (.int (0 : Int32))] []) (fun t k => XS.ifNo X1.here hx rfl (hb hby at_60) rfl (by decide) k) ?_
          refine own_go (mkF m 65 #[.val (.long q1), .second, .val (.int r1), .val (.long v9), .second, .val (.long v14), .second, .val (.int (1 : Int32)), .val (.int (0 : Int32))] [(.int (0 : Int32))]) (fun t k => XS.iload X1.here hx rfl (hb hby at_63) rfl k) ?_
          refine own_go (mkF m 72 #[.val (.long q1), .second, .val (.int r1), .val (.long v9), .second, .val (.long v14), .second, .val (.int (1 : Int32)), .val (.int (0 : Int32))] []) (fun t k => XS.ifYes X1.here hx rfl (pc0 := 65) (pc' := 72) rfl (hb hby at_65) rfl (by decide) (by decide) (by decide) k) ?_
          refine own_go (mkF m 73 #[.val (.long q1), .second, .val (.int r1), .val (.long v9), .second, .val (.long v14), .second, .val (.int (1 : Int32)), .val (.int (0 : Int32))] [(.int (0 : Int32))]) (fun t k => XS.iconst X1.here hx rfl (hb hby at_72) k) ?_
          refine own_retI X1 hx hlk hret (by simp) rfl (hb hby at_73) (by decide) (by decide) ?_
          rw [e1]
          exfalso
          omega
set_option maxRecDepth 65536 in
set_option maxHeartbeats 40000000 in
theorem comes_1 {Post : Tables → Env → Array Value → State → Outcome → State → Prop} (hpost : ∀ tb e args s v u, (limb_1_1.after args s (.returned v) u = true ∧ limb_1_2.after args s (.returned v) u = true ∧ True) → FrameEnd s (.returned v) u (Jvm.fieldLocs frame_1_writes args s ++ Jvm.arrayLocs frame_1_arrays args s ++ Jvm.staticLocs frame_1_statics s) 0 0 → Post tb e args s (.returned v) u) :
    ArmFor flags0 classFile x code maxLocals ret World_1 tables_1 room_1 Calls_1 rest_1 Pre_1 Post := by
  intro l hfl _ _ p e ha hc hk s m args below hf hA hF happ hP
  obtain ⟨hcalls, hrest, hpre⟩ := hP
  obtain ⟨-, -, -, hnamed, -, -, -, hat⟩ := (Spec.applies_iff hf).mp happ
  obtain ⟨hg, hn⟩ := and_e (Cond.before_iff.mp (show (Jvm.Cond.and given_1 narrow_1).before args s = true from hpre))
  obtain ⟨q0, u0⟩ := and_e hg
  obtain ⟨w0, rfl⟩ : ∃ w0 : Value, args = #[w0] := by
    have hs : args.size = 1 := by simpa [Cond.value, given_1] using q0
    obtain ⟨L⟩ := args
    match L, hs with
    | [w0], _ => exact ⟨w0, rfl⟩
  have hw := fun d (hd : d ∈ tables_1) => atoms_spec (ws := Jvm.Cond.code x code maxLocals ret :: tables_1) hat d (List.mem_cons_of_mem _ hd)
  obtain ⟨i0, g0⟩ := isL_v u0
  obtain rfl : w0 = (.long i0) := Option.some.inj g0
  obtain ⟨n, o, h1, h2, h3, _, L, rfl, ⟨rfl, N⟩, hq⟩ := rm0 l s _ hw tables_1 i0 s.heap s.heap.size (Nat.le_refl _)  p e ha hc hk s m _ below hf ((Spec.applies_iff_loose hf).mp happ).1 ⟨rfl, State.Warmed39.refl s, rfl⟩ trivial
  refine ⟨n, _, h1, h2, h3, hpost _ _ _ _ _ _ ⟨Cond.after_iff.mpr rfl, Cond.after_iff.mpr (eq_i res_at (Term.int_eval (1)) rfl), trivial⟩ ⟨hq.1, hq.2.1, (hq.2.2.sift fun y hy => Or.inr (N y hy)).mono (by decide) (by decide)⟩⟩
theorem main_1_1 : Claimed_1_1 := comes_1 fun _ _ _ _ _ _ h hF => ⟨h.1, hF⟩
theorem main_1_2 : Claimed_1_2 := comes_1 fun _ _ _ _ _ _ h hF => ⟨h.2.1, hF⟩
end Jvm.Pilot.@@N@@
namespace Jvm.Pilot.@@N@@
open Jvm Jvm.ClassFile Sem Op Lib Jvm.Free Jvm.Stand Jvm.Pilot.@@N@@.Jvm.D
/-! MADE BY PROGRAM (witnessworld.py) out of the Statement's table words and the real class files: 9 classes; the members and pool entries that the words name. The judged class is class 1, her method 1. -/
namespace start1
open Jvm.ClassFile
def u (s : String) : CpInfo := .utf8 (stringToUtf16 s)
/-- a pool by its gaps: so many unusable entries, then the entry; so many at the end -/
def gap : Nat → List CpInfo → List CpInfo
  | 0, r => r
  | n + 1, r => .unusable :: gap n r
def poolList (es : List (Nat × CpInfo)) (last : Nat) : List CpInfo := es.foldr (fun e r => gap e.1 (e.2 :: r)) (gap last [])
def pool (es : List (Nat × CpInfo)) (last : Nat) : Array CpInfo := ⟨poolList es last⟩
def fileOf (pool : Array CpInfo) (this : Nat) (attrs : Array Attribute := #[]) (ms : Array MethodInfo := #[]) (fl : Nat := 33) (sup : Nat := 0) (ifs : Array Nat := #[]) (fds : Array FieldInfo := #[]) : ClassFile where
  minorVersion := 0
  majorVersion := 65
  constantPool := pool
  accessFlags := fl
  thisClass := this
  superClass := sup
  interfaces := ifs
  fields := fds
  methods := ms
  attributes := attrs
def plain (name : String) (sup : Option ClassId) : Class where
  name := name
  kind := .ordinary
  loader := none
  accessFlags := 33
  super := sup
  interfaces := #[]
  cf := none
  fields := #[]
  methods := #[]
  instanceTypes := #[]
  staticTypes := #[]
  resolved := #[]
  callSites := []
  init := .initialized
  statics := none
  mirror := none

def pool0 : Array CpInfo := pool [(5, u "<init>"), (0, u "()V"), (1, .class_ 10), (1, u "java/lang/Object")] 113

def k0m0 : Method := { name := "<init>", desc := "()V", sig := { parameters := [], returnType := none }, accessFlags := 1, code := none }
/-- java/lang/Object -/
def k0 : Class := { plain "java/lang/Object" none with
  accessFlags := 33
  interfaces := #[]
  cf := some (fileOf pool0 8 #[] #[{ accessFlags := 1, nameIndex := 5, descriptorIndex := 6, attributes := #[] }] 33 0 #[] #[])
  fields := #[]
  methods := #[k0m0]
  instanceTypes := #[]
  staticTypes := #[]
  resolved := Array.replicate 124 none
  statics := none }

def pool1 : Array CpInfo := pool [(2, .class_ 4), (1, u "java/lang/Object"), (0, u "<init>"), (0, u "()V"), (0, .methodref 8 9), (0, .class_ 10), (0, .nameAndType 11 12), (0, u "com/example/starbyte/starbyte/hdu/Hdu"), (0, u "padding"), (0, u "(J)I"), (0, .long 2880), (1, .class_ 16), (0, u "com/example/starbyte/starbyte/hdu/HduPaddingPinLaw"), (2, u "law"), (0, u "(J)Z")] 3

def k1m0 : Method := { name := "<init>", desc := "()V", sig := { parameters := [], returnType := none }, accessFlags := 1, code := none }
def k1c1 : Code := { maxStack := 4, maxLocals := 9, code := code, exceptionTable := #[], attributes := #[] }
def k1m1 : Method := { name := "law", desc := "(J)Z", sig := { parameters := [.long], returnType := some .boolean }, accessFlags := 9, code := some k1c1 }
/-- com/example/starbyte/starbyte/hdu/HduPaddingPinLaw -/
def k1 : Class := { plain "com/example/starbyte/starbyte/hdu/HduPaddingPinLaw" (some 0) with
  accessFlags := 49
  interfaces := #[]
  cf := some (fileOf pool1 15 #[] #[{ accessFlags := 1, nameIndex := 5, descriptorIndex := 6, attributes := #[] }, { accessFlags := 9, nameIndex := 19, descriptorIndex := 20, attributes := #[] }] 49 2 #[] #[])
  fields := #[]
  methods := #[k1m0, k1m1]
  instanceTypes := #[]
  staticTypes := #[]
  resolved := Array.replicate 24 none
  statics := none }

def pool2 : Array CpInfo := pool [(2, .class_ 4), (1, u "java/lang/Object"), (3, .class_ 10), (1, u "com/example/starbyte/starbyte/hdu/Hdu"), (0, u "index"), (0, u "I"), (2, u "offset"), (0, u "J"), (2, u "header"), (0, u "Lcom/example/starbyte/starbyte/header/Header;"), (1, u "PRIMARY"), (22, u "kind"), (0, u "Ljava/lang/String;"), (4, u "name"), (0, u "Ljava/util/Optional;"), (20, u "bitpix"), (0, u "Lcom/example/starbyte/starbyte/hdu/Bitpix;"), (6, u "axes"), (0, u "Ljava/util/List;"), (2, u "dataSize"), (8, u "IMAGE"), (6, u "image"), (0, u "Z"), (118, .long 2880), (8, u "BLOCK_SIZE"), (2, u "BINARY_TABLE"), (0, u "MAX_NAXIS"), (22, u "padding"), (0, u "(J)I")] 49

def k2c0 : Code := { maxStack := 6, maxLocals := 2, code := prog_31_method_18_code, exceptionTable := #[], attributes := #[] }
def k2m0 : Method := { name := "padding", desc := "(J)I", sig := { parameters := [.long], returnType := some .int }, accessFlags := 8, code := some k2c0 }
/-- com/example/starbyte/starbyte/hdu/Hdu -/
def k2 : Class := { plain "com/example/starbyte/starbyte/hdu/Hdu" (some 0) with
  accessFlags := 49
  interfaces := #[]
  cf := some (fileOf pool2 8 #[] #[{ accessFlags := 8, nameIndex := 257, descriptorIndex := 258, attributes := #[] }] 49 2 #[] #[{ accessFlags := 24, nameIndex := 230, descriptorIndex := 12, attributes := #[] }, { accessFlags := 26, nameIndex := 22, descriptorIndex := 46, attributes := #[] }, { accessFlags := 26, nameIndex := 94, descriptorIndex := 46, attributes := #[] }, { accessFlags := 26, nameIndex := 233, descriptorIndex := 46, attributes := #[] }, { accessFlags := 26, nameIndex := 234, descriptorIndex := 12, attributes := #[] }, { accessFlags := 18, nameIndex := 11, descriptorIndex := 12, attributes := #[] }, { accessFlags := 18, nameIndex := 15, descriptorIndex := 16, attributes := #[] }, { accessFlags := 18, nameIndex := 19, descriptorIndex := 20, attributes := #[] }, { accessFlags := 18, nameIndex := 45, descriptorIndex := 46, attributes := #[] }, { accessFlags := 18, nameIndex := 51, descriptorIndex := 52, attributes := #[] }, { accessFlags := 18, nameIndex := 73, descriptorIndex := 74, attributes := #[] }, { accessFlags := 18, nameIndex := 81, descriptorIndex := 82, attributes := #[] }, { accessFlags := 18, nameIndex := 85, descriptorIndex := 16, attributes := #[] }, { accessFlags := 18, nameIndex := 101, descriptorIndex := 102, attributes := #[] }])
  fields := #[{ name := "BLOCK_SIZE", type := .int, accessFlags := 24, slot := 0, constantValue := 0 }, { name := "PRIMARY", type := (.object "java/lang/String"), accessFlags := 26, slot := 1, constantValue := 0 }, { name := "IMAGE", type := (.object "java/lang/String"), accessFlags := 26, slot := 2, constantValue := 0 }, { name := "BINARY_TABLE", type := (.object "java/lang/String"), accessFlags := 26, slot := 3, constantValue := 0 }, { name := "MAX_NAXIS", type := .int, accessFlags := 26, slot := 4, constantValue := 0 }, { name := "index", type := .int, accessFlags := 18, slot := 0, constantValue := 0 }, { name := "offset", type := .long, accessFlags := 18, slot := 1, constantValue := 0 }, { name := "header", type := (.object "com/example/starbyte/starbyte/header/Header"), accessFlags := 18, slot := 2, constantValue := 0 }, { name := "kind", type := (.object "java/lang/String"), accessFlags := 18, slot := 3, constantValue := 0 }, { name := "name", type := (.object "java/util/Optional"), accessFlags := 18, slot := 4, constantValue := 0 }, { name := "bitpix", type := (.object "com/example/starbyte/starbyte/hdu/Bitpix"), accessFlags := 18, slot := 5, constantValue := 0 }, { name := "axes", type := (.object "java/util/List"), accessFlags := 18, slot := 6, constantValue := 0 }, { name := "dataSize", type := .long, accessFlags := 18, slot := 7, constantValue := 0 }, { name := "image", type := .boolean, accessFlags := 18, slot := 8, constantValue := 0 }]
  methods := #[k2m0]
  instanceTypes := #[.int, .long, (.object "com/example/starbyte/starbyte/header/Header"), (.object "java/lang/String"), (.object "java/util/Optional"), (.object "com/example/starbyte/starbyte/hdu/Bitpix"), (.object "java/util/List"), .long, .boolean]
  staticTypes := #[.int, (.object "java/lang/String"), (.object "java/lang/String"), (.object "java/lang/String"), .int]
  resolved := Array.replicate 308 none
  statics := none }

def pool3 : Array CpInfo := pool [(1, u "java/lang/Cloneable"), (0, .class_ 1), (0, u "java/lang/Object"), (0, .class_ 3)] 3

/-- java/lang/Cloneable -/
def k3 : Class := { plain "java/lang/Cloneable" (some 0) with
  accessFlags := 1537
  interfaces := #[]
  cf := some (fileOf pool3 2 #[] #[] 1537 4 #[] #[])
  fields := #[]
  methods := #[]
  instanceTypes := #[]
  staticTypes := #[]
  resolved := Array.replicate 8 none
  statics := none }

def pool4 : Array CpInfo := pool [(1, u "java/io/Serializable"), (0, .class_ 1), (0, u "java/lang/Object"), (0, .class_ 3)] 3

/-- java/io/Serializable -/
def k4 : Class := { plain "java/io/Serializable" (some 0) with
  accessFlags := 1537
  interfaces := #[]
  cf := some (fileOf pool4 2 #[] #[] 1537 4 #[] #[])
  fields := #[]
  methods := #[]
  instanceTypes := #[]
  staticTypes := #[]
  resolved := Array.replicate 8 none
  statics := none }

/-- the primitive byte -/
def k5 : Class := { plain "byte" none with kind := .primitive 'B', accessFlags := 0x411 }
/-- [B -/
def k6 : Class := { plain "[B" (some 0) with kind := .array 5 .byte, interfaces := #[3, 4], accessFlags := 1041 }

/-- the primitive int -/
def k7 : Class := { plain "int" none with kind := .primitive 'I', accessFlags := 0x411 }
/-- [I -/
def k8 : Class := { plain "[I" (some 0) with kind := .array 7 .int, interfaces := #[3, 4], accessFlags := 1041 }

def heap : Heap := #[]
def classes : Array Class := #[k0, k1, k2, k3, k4, k5, k6, k7, k8]
def interned : List (Array UInt16 × Addr) := []
def slotsUsed : Nat := 0
def theMethod : MethodId := ⟨1, 1⟩
def args0 : Array Value := #[.long 5]
def aboutOver (below : List Frame) : State where
  vm := { classes := classes, interned := interned.toArray }
  heap := heap
  slotsUsed := slotsUsed
  threads := #[{ frames := .invoking theMethod args0 :: below }]
def below0 : List Frame := [.native { method := ⟨0, 0⟩, args := #[] }]
def about1 : State := aboutOver below0
def p0 : Program := .bare "" "" ""
def e0 : Env := launch0.env 0 0 0
theorem w_frames : about1.frames = Frame.invoking theMethod args0 :: below0 := rfl
set_option maxRecDepth 65536 in
theorem w_args : argsFit about1.vm theMethod args0 = true := by decide +kernel
set_option maxRecDepth 65536 in
theorem w_heap : heapFits about1 = true := by decide +kernel
set_option maxRecDepth 65536 in
theorem w_runnable : about1.curStatus? = some .runnable := by decide +kernel
set_option maxRecDepth 65536 in
theorem w_alone : about1.alone = true := by decide +kernel
set_option maxRecDepth 65536 in
theorem w_named : about1.methodNamed? x = some theMethod := by decide +kernel
set_option maxRecDepth 65536 in
theorem w_hears : about1.hears theMethod below0 = true := by decide +kernel
set_option maxRecDepth 65536 in
theorem w_ripe : about1.ripe theMethod args0 below0 = true := by decide +kernel
theorem w_running : about1.status = .running := rfl
set_option maxRecDepth 65536 in
theorem w_room : about1.hasRoom e0.platform room_1 = true :=
  launch0.hasRoom_least _ room_1 (by decide +kernel) (by decide +kernel) (by decide +kernel) (by decide +kernel) (by decide +kernel) (by decide +kernel)
theorem allAtoms_all (ts : List Jvm.Cond) (a : Array Jvm.Value) (st : Jvm.State) : (allAtoms ts).before a st = ts.all (fun c => c.before a st) := by
  induction ts with
  | nil => rfl
  | cons c t ih =>
    show (Jvm.Cond.and c (allAtoms t)).before a st = _
    rw [Jvm.Cond.before_and, ih, List.all_cons]
def words1 : List Jvm.Cond := Jvm.Cond.code x code maxLocals ret :: tables_1
/-- a 'code' word, met by the world's own term for the bytes: nothing is compared byte by byte -/
theorem code_word {y : MethodName} {bytes : ByteArray} {mx : Nat} {rt : Option FieldType} {a : Array Value} {s : State} {m : MethodId} {meth : Method} {c : Code} (h1 : s.methodNamed? y = some m) (h2 : s.vm.method? m = some meth) (h3 : meth.code = some c) (h4 : c.code = bytes)
    (h5 : (c.maxLocals == mx && c.exceptionTable.isEmpty && decide (c.maxStack ≤ mostOperands) && decide (meth.sig.returnType = rt) && !meth.locks && decide (parseMethodDescriptor y.desc = some meth.sig)) = true) : (Jvm.Cond.code y bytes mx rt).before a s = true := by
  simp only [Bool.and_eq_true, beq_iff_eq, Bool.not_eq_true', decide_eq_true_eq] at h5
  obtain ⟨⟨⟨⟨⟨g1, g2⟩, g3⟩, g4⟩, g5⟩, g6⟩ := h5
  simp [Cond.before, Cond.holds, Cond.value, h1, h2, h3, h4, g1, g2, g3, g4, g5, g6]
def isCode : Jvm.Cond → Bool
  | .code _ _ _ _ => true
  | _ => false
theorem all_split {L : List Jvm.Cond} {P : Jvm.Cond → Bool} (h1 : L.all (fun c => isCode c || P c) = true) (h2 : ∀ c ∈ L.filter isCode, P c = true) : L.all P = true := by
  refine List.all_eq_true.mpr fun c hc => ?_
  have h := List.all_eq_true.mp h1 c hc
  rcases Bool.eq_false_or_eq_true (isCode c) with hi | hi
  · exact h2 c (List.mem_filter.mpr ⟨hc, hi⟩)
  · simpa [hi] using h
set_option maxRecDepth 65536 in
theorem w_c0 : (Jvm.Cond.code x code maxLocals ret).before args0 about1 = true := code_word (m := ⟨1, 1⟩) (meth := k1m1) (c := k1c1) (by decide +kernel) rfl rfl rfl (by decide +kernel)
set_option maxRecDepth 65536 in
theorem w_c1 : (Jvm.Cond.code ({ cls := "com/example/starbyte/starbyte/hdu/Hdu", name := "padding", desc := "(J)I" } : Jvm.MethodName) prog_31_method_18_code (2 : Nat) (Option.some Jvm.ClassFile.FieldType.int)).before args0 about1 = true := code_word (m := ⟨2, 0⟩) (meth := k2m0) (c := k2c0) (by decide +kernel) rfl rfl rfl (by decide +kernel)
def codes1 : List Jvm.Cond := [Jvm.Cond.code x code maxLocals ret, Jvm.Cond.code ({ cls := "com/example/starbyte/starbyte/hdu/Hdu", name := "padding", desc := "(J)I" } : Jvm.MethodName) prog_31_method_18_code (2 : Nat) (Option.some Jvm.ClassFile.FieldType.int)]
set_option maxRecDepth 65536 in
theorem codes_eq : words1.filter isCode = codes1 := rfl
theorem w_codes : ∀ c ∈ words1.filter isCode, c.before args0 about1 = true := by
  rw [codes_eq]
  intro c hc
  simp only [codes1, List.mem_cons, List.not_mem_nil, or_false] at hc
  rcases hc with rfl | rfl
  · exact w_c0
  · exact w_c1
set_option maxRecDepth 65536 in
theorem w_t1 : words1.all (fun c => isCode c || c.before args0 about1) = true := by decide +kernel
theorem w_tables : (allAtoms (Jvm.Cond.code x code maxLocals ret :: tables_1)).before args0 about1 = true := by
  rw [allAtoms_all]
  show words1.all (fun c => c.before args0 about1) = true
  refine all_split ?_ w_codes
  rw [w_t1]
set_option maxRecDepth 65536 in
theorem w_case : (Jvm.Cond.and given_1 narrow_1).before args0 about1 = true := by decide +kernel
theorem w_applies : (headSpec (Jvm.Cond.code x code maxLocals ret :: tables_1) room_1).applies x e0.platform about1 = true :=
  (Spec.applies_iff w_frames).mpr ⟨w_running, w_runnable, w_alone, w_named, w_hears, w_ripe, w_room, w_tables⟩
theorem atStart : AtStart classFile x code maxLocals ret World_1 tables_1 room_1 Calls_1 rest_1 Pre_1 launch0 p0 e0 about1 theMethod args0 below0 :=
  ⟨lists_1, trivial, launch0.admits_env _ _ _, launch0.least_env, fairChoices_fair.cas, fairChoices_fair.clock, w_frames, w_args, w_heap, w_applies, trivial, trivial, w_case⟩
end start1
theorem witness_1 : WitnessClaimed_1 := ⟨start1.p0, start1.e0, start1.about1, start1.theMethod, start1.args0, start1.below0, start1.atStart⟩
end Jvm.Pilot.@@N@@
