import JvmDerived
import JvmDerived.Pilot.@@N@@Statement
import JvmDerived.Pilot.@@N@@Code
set_option linter.unusedVariables false
set_option linter.unusedSimpArgs false
namespace Jvm.Pilot.@@N@@
open Jvm Jvm.ClassFile Sem Op Lib Jvm.Free Jvm.Stand Jvm.LawKit Jvm.RoadKit Bundle Jvm.Pilot.@@N@@.Jvm.D
section Own
variable {p : Program} {l : Launch} {e : Env} {R : Room} {s : State} {m : MethodId} {args : Array Value} {below : List Frame} {meth : Method} {c : Code} {T T' : State} {locs : List Loc} {cells slots C S : Nat} {Qv : Option Value → Heap → List Loc → Prop} {Z : State} {a0 : Array Value} {h : Heap}
/-- from here, with this frame on top, the method returns, Qv holds of what it returns, of the heap and of what was written, within C cells and S slots -/
def own_Ends (p : Program) (e : Env) (below : List Frame) (s : State) (C S : Nat) (Qv : Option Value → Heap → List Loc → Prop) (T : State) (g : JFrame) : Prop :=
  ∃ (s₂ : State) (o : Outcome), Steps p.tables e below (T.setTop g) s₂ ∧ s₂.status = .running ∧ Ended s₂ below o ∧ ∃ v L, o = .returned v ∧ Qv v s₂.heap L ∧ FrameEnd s o s₂ L C S
theorem own_go {g : JFrame} (g' : JFrame) (st : ∀ t, Steps p.tables e below (T'.setTop g') t → Steps p.tables e below (T.setTop g) t) (k : own_Ends p e below s C S Qv T' g') : own_Ends p e below s C S Qv T g := by
  obtain ⟨s₂, o, h1, h⟩ := k
  exact ⟨s₂, o, st _ h1, h⟩
theorem own_ret (X : Stand p l e R s m args below meth c T locs cells slots) (hlk : meth.locks = false) {g : JFrame} {v : Option Value} (hv : meth.sig.returnType = none → v = none)
    (st : ∀ fs, (∀ (f : JFrame) (acts : List Action), f.method = m → f.locked = none → f.entered = [] → (doReturn e (T.setTop f) acts v).1 = T.setFrames fs) → Steps p.tables e below (T.setTop g) (T.setFrames fs))
    (hC : cells ≤ C) (hS : slots ≤ S) (hQ : Qv v T.heap locs) : own_Ends p e below s C S Qv T g := by
  obtain ⟨fs, hr, hrun, hended, hW, hsame⟩ := X.leave (v := v) hv hlk
  exact ⟨_, _, st fs hr, hrun, hended, v, locs, rfl, hQ, ⟨_, rfl⟩, hW, hsame.mono hC hS⟩
theorem own_retI (X : Stand p l e R s m args below meth c T locs cells slots) (hx : p.tables.exec = Jvm.exec) (hlk : meth.locks = false) {pc : Nat} {Ls : Array Slot} {z : Int32} {rest : List Value} {t : FieldType} (hret : meth.sig.returnType = some t)
    (ht : t = .int ∨ t = .boolean ∨ t = .byte ∨ t = .char ∨ t = .short) (hn : narrow t (.int z) = .int z) (hd : decode c.code pc = .ok (.ireturn, 1)) (hC : cells ≤ C) (hS : slots ≤ S) (hQ : Qv (some (.int z)) T.heap locs) : own_Ends p e below s C S Qv T (mkF m pc Ls (.int z :: rest)) :=
  own_ret X hlk (fun h => by rw [hret] at h; cases h) (fun fs hr => retOut X hx hret hn (Or.inl ⟨rfl, ht, _, rfl⟩) hd hr) hC hS hQ
theorem own_retN (X : Stand p l e R s m args below meth c T locs cells slots) (hx : p.tables.exec = Jvm.exec) (hlk : meth.locks = false) {pc : Nat} {Ls : Array Slot} {z : Int32} {rest : List Value} {t : FieldType} (hret : meth.sig.returnType = some t)
    (ht : t = .boolean ∨ t = .byte ∨ t = .char ∨ t = .short) (hd : decode c.code pc = .ok (.ireturn, 1)) (hC : cells ≤ C) (hS : slots ≤ S) (hQ : Qv (some (.int (nar t z))) T.heap locs) : own_Ends p e below s C S Qv T (mkF m pc Ls (.int z :: rest)) :=
  own_ret X hlk (fun h => by rw [hret] at h; cases h) (fun fs hr => retN X hx hret ht hd hr) hC hS hQ
theorem own_retL (X : Stand p l e R s m args below meth c T locs cells slots) (hx : p.tables.exec = Jvm.exec) (hlk : meth.locks = false) {pc : Nat} {Ls : Array Slot} {z : Int64} {rest : List Value} (hret : meth.sig.returnType = some .long)
    (hd : decode c.code pc = .ok (.lreturn, 1)) (hC : cells ≤ C) (hS : slots ≤ S) (hQ : Qv (some (.long z)) T.heap locs) : own_Ends p e below s C S Qv T (mkF m pc Ls (.long z :: rest)) :=
  own_ret X hlk (fun h => by rw [hret] at h; cases h) (fun fs hr => retOut X hx hret rfl (Or.inr (Or.inl ⟨rfl, rfl, _, rfl⟩)) hd hr) hC hS hQ
theorem own_retA (X : Stand p l e R s m args below meth c T locs cells slots) (hx : p.tables.exec = Jvm.exec) (hlk : meth.locks = false) {pc : Nat} {Ls : Array Slot} {z : Addr} {rest : List Value} {t : FieldType} (hret : meth.sig.returnType = some t) (ht : t.isReference = true) (hn : narrow t (.ref z) = .ref z)
    (hd : decode c.code pc = .ok (.areturn, 1)) (hC : cells ≤ C) (hS : slots ≤ S) (hQ : Qv (some (.ref z)) T.heap locs) : own_Ends p e below s C S Qv T (mkF m pc Ls (.ref z :: rest)) :=
  own_ret X hlk (fun h => by rw [hret] at h; cases h) (fun fs hr => retOut X hx hret hn (Or.inr (Or.inr (Or.inr (Or.inr ⟨rfl, ht, rfl⟩)))) hd hr) hC hS hQ
theorem own_ret0 (X : Stand p l e R s m args below meth c T locs cells slots) (hx : p.tables.exec = Jvm.exec) (hlk : meth.locks = false) {pc : Nat} {Ls : Array Slot} (hret : meth.sig.returnType = none)
    (hd : decode c.code pc = .ok (.return_, 1)) (hC : cells ≤ C) (hS : slots ≤ S) (hQ : Qv none T.heap locs) : own_Ends p e below s C S Qv T (mkF m pc Ls []) :=
  own_ret X hlk (fun _ => rfl) (fun fs hr => X.returnOut hx hret hd hr) hC hS hQ
/-- a contract out of its body's walk -/
theorem own_met {y : MethodName} {bytes : ByteArray} {maxL : Nat} {ret : Option FieldType} {ws : List Jvm.Cond} {rm : Room} {as' : Array Value} {h0 : Heap} (hp : plainFor y = true)
    (body : ∀ (p : Program) (e : Env) (s : State) (m : MethodId) (below : List Frame) (meth : Method) (c : Code) (T : State), p.tables.exec = Jvm.exec → c.code = bytes → c.maxLocals = maxL → s.vm.findClass y.cls = some m.cls → meth.sig.returnType = ret → meth.locks = false → meth.name = y.name → Z.Warmed39 s.vm → Stand p l e rm s m as' below meth c T [] 0 0 → T.heap = h0 → own_Ends p e below s rm.cells rm.slots Qv T (entryFrame m as' maxL)) :
    MetFree l y (head1 (Jvm.Cond.code y bytes maxL ret :: ws) rm) (fun a U => a = as' ∧ Z.Warmed39 U.vm ∧ U.heap = h0) (fun _ _ _ _ _ => True) (fun _ U o U' => ∃ v L, o = .returned v ∧ Qv v U'.heap L ∧ FrameEnd U o U' L rm.cells rm.slots) := by
  refine MetFree.of_bodySF hp hisR ?_
  intro p e s m args below meth c s₁ Bd hml0 hP hK
  obtain ⟨rfl, hZ, hh⟩ := hP
  exact body p e s m below meth c s₁ Bd.exec Bd.bytes hml0 (findClass_of_methodNamed Bd.named) Bd.returns Bd.notSynchronized ((name_of_methodNamed Bd.named Bd.method).1) hZ (Stand.of_body Bd) (by rw [← hh, Bd.state]; rfl)
/-- what a callee's contract says (as' its arguments, h the heap where it is called) -/
abbrev own_Met (l : Launch) (Z : State) (y : MethodName) (bytes : ByteArray) (maxL : Nat) (ret : Option FieldType) (rm : Room) (as' : Array Value) (h : Heap) (Q : Option Value → Heap → List Loc → Prop) : Prop :=
  MetFree l y (head1 [Jvm.Cond.code y bytes maxL ret] rm) (fun a U => a = as' ∧ Z.Warmed39 U.vm ∧ U.heap = h) (fun _ _ _ _ _ => True) (fun _ U o U' => ∃ v L, o = .returned v ∧ Q v U'.heap L ∧ FrameEnd U o U' L rm.cells rm.slots)
theorem own_callS (X : Stand p l e R s m args below meth c T locs cells slots) (hx : p.tables.exec = Jvm.exec) (hZ : Z.Warmed39 s.vm) {own : String} {index : Nat} {y : MethodName} {bytes : ByteArray} {maxL : Nat} {ret : Option FieldType} {rm : Room} {as' : Array Value} {Q : Option Value → Heap → List Loc → Prop}
    (hown : s.vm.findClass own = some m.cls) (w1 : (Jvm.Cond.methodLink own index y).before a0 Z = true) (w2 : (Jvm.Cond.static y).before a0 Z = true) (w3 : (Jvm.Cond.initialized y.cls).before a0 Z = true) (w4 : (Jvm.Cond.code y bytes maxL ret).before a0 Z = true)
    (hy : y.cls ≠ "java/lang/invoke/MethodHandle" ∧ y.cls ≠ "java/lang/invoke/VarHandle") (eT : T.heap = h) (hM : own_Met l Z y bytes maxL ret rm as' h Q)
    (W : Nat) (hf : rm.frames + 1 ≤ R.frames) (hl : W + (maxL + 11) + rm.locals ≤ R.locals) (hC : cells + rm.cells ≤ R.cells) (hS : slots + rm.slots ≤ R.slots)
    {g : JFrame} (hg : g.method = m) (hsize : g.locals.size = c.maxLocals) (argsL rest : List Value) (hlen : ∀ sig, parseMethodDescriptor y.desc = some sig → argsL.length = sig.parameters.length)
    (hstack : g.stack = argsL.reverse ++ rest) (has : argsL.toArray = as') (hW : 2 * g.monitorRoom + (rest.map fun v => v.category).sum ≤ W) (hd : decode c.code g.pc = .ok (.invokestatic index, 3))
    (k : ∀ v T' h' L, Stand p l e R s m args below meth c T' (locs ++ L) (cells + rm.cells) (slots + rm.slots) → T'.heap = h' → Q v h' L → own_Ends p e below s C S Qv T' { g with pc := g.pc + 3, stack := v.toList ++ rest }) : own_Ends p e below s C S Qv T g := by
  obtain ⟨v, _, ⟨T', L', k', n'⟩, -, X', ⟨Lc, hQ, l1, y1, z1⟩, st⟩ := Jvm.LawKit.callS X hx (y := y) hown (mvT hZ w1) (mvT hZ w2) (mvT hZ w3) (mvT hZ w4) hy (backOf (W := W) hM hZ w4 w3 hf hl) (g := g) hg hsize (argsL := argsL) (rest := rest) hlen hstack hW hd (fun _ _ => ⟨has, eT, hC, hS⟩)
  dsimp only [Pt.U, Pt.locs, Pt.cells, Pt.slots] at X' l1 y1 z1 st hQ
  subst l1 y1 z1
  exact own_go _ st (k v T' _ Lc X' rfl hQ)
theorem own_callI (X : Stand p l e R s m args below meth c T locs cells slots) (hx : p.tables.exec = Jvm.exec) (hZ : Z.Warmed39 s.vm) {own : String} {index : Nat} {y : MethodName} {bytes : ByteArray} {maxL : Nat} {rm : Room} {as' : Array Value} {Q : Option Value → Heap → List Loc → Prop}
    (hown : s.vm.findClass own = some m.cls) (hy1 : y.name = "<init>") (w1 : (Jvm.Cond.methodLink own index y).before a0 Z = true) (w2 : (Jvm.Cond.instanceMethod y).before a0 Z = true) (w3 : (Jvm.Cond.initialized y.cls).before a0 Z = true) (w4 : (Jvm.Cond.code y bytes maxL none).before a0 Z = true)
    (hy : y.cls ≠ "java/lang/invoke/MethodHandle" ∧ y.cls ≠ "java/lang/invoke/VarHandle") (eT : T.heap = h) (hM : own_Met l Z y bytes maxL none rm as' h Q)
    (W : Nat) (hf : rm.frames + 1 ≤ R.frames) (hl : W + (maxL + 11) + rm.locals ≤ R.locals) (hC : cells + rm.cells ≤ R.cells) (hS : slots + rm.slots ≤ R.slots)
    {g : JFrame} (hg : g.method = m) (hsize : g.locals.size = c.maxLocals) (a : Addr) (argsL rest : List Value) (hlen : ∀ sig, parseMethodDescriptor y.desc = some sig → argsL.length = sig.parameters.length)
    (hstack : g.stack = argsL.reverse ++ .ref a :: rest) (has : (Value.ref a :: argsL).toArray = as') (hW : 2 * g.monitorRoom + (rest.map fun v => v.category).sum ≤ W) (hd : decode c.code g.pc = .ok (.invokespecial index, 3))
    (k : ∀ v T' h' L, Stand p l e R s m args below meth c T' (locs ++ L) (cells + rm.cells) (slots + rm.slots) → T'.heap = h' → Q v h' L → own_Ends p e below s C S Qv T' { g with pc := g.pc + 3, stack := v.toList ++ rest }) : own_Ends p e below s C S Qv T g := by
  obtain ⟨v, _, ⟨T', L', k', n'⟩, -, X', ⟨Lc, hQ, l1, y1, z1⟩, st⟩ := Jvm.LawKit.callI X hx (y := y) hown hy1 (mvT hZ w1) (mvT hZ w2) (mvT hZ w4) hy (backOf (W := W) hM hZ w4 w3 hf hl) (g := g) hg hsize (a := a) (argsL := argsL) (rest := rest) hlen hstack hW hd (fun _ _ => ⟨has, eT, hC, hS⟩)
  dsimp only [Pt.U, Pt.locs, Pt.cells, Pt.slots] at X' l1 y1 z1 st hQ
  subst l1 y1 z1
  exact own_go _ st (k v T' _ Lc X' rfl hQ)
theorem own_callV (X : Stand p l e R s m args below meth c T locs cells slots) (hx : p.tables.exec = Jvm.exec) (hZ : Z.Warmed39 s.vm) {own C0 : String} {index : Nat} {y : MethodName} {bytes : ByteArray} {maxL : Nat} {ret : Option FieldType} {rm : Room} {as' : Array Value} {Q : Option Value → Heap → List Loc → Prop}
    (hown : s.vm.findClass own = some m.cls) (w1 : (Jvm.Cond.methodLink own index y).before a0 Z = true) (w5 : (Jvm.Cond.declares y).before a0 Z = true) (w6 : (Jvm.Cond.selects C0 y y).before a0 Z = true) (w2 : (Jvm.Cond.instanceMethod y).before a0 Z = true) (w3 : (Jvm.Cond.initialized y.cls).before a0 Z = true) (w4 : (Jvm.Cond.code y bytes maxL ret).before a0 Z = true)
    (hy : y.cls ≠ "java/lang/invoke/MethodHandle" ∧ y.cls ≠ "java/lang/invoke/VarHandle") (eT : T.heap = h) (a : Addr) (E : Exa Z h a C0) (hM : own_Met l Z y bytes maxL ret rm as' h Q)
    (W : Nat) (hf : rm.frames + 1 ≤ R.frames) (hl : W + (maxL + 11) + rm.locals ≤ R.locals) (hC : cells + rm.cells ≤ R.cells) (hS : slots + rm.slots ≤ R.slots)
    {g : JFrame} (hg : g.method = m) (hsize : g.locals.size = c.maxLocals) (argsL rest : List Value) (hlen : ∀ sig, parseMethodDescriptor y.desc = some sig → argsL.length = sig.parameters.length)
    (hstack : g.stack = argsL.reverse ++ .ref a :: rest) (has : (Value.ref a :: argsL).toArray = as') (hW : 2 * g.monitorRoom + (rest.map fun v => v.category).sum ≤ W) (hd : decode c.code g.pc = .ok (.invokevirtual index, 3))
    (k : ∀ v T' h' L, Stand p l e R s m args below meth c T' (locs ++ L) (cells + rm.cells) (slots + rm.slots) → T'.heap = h' → Q v h' L → own_Ends p e below s C S Qv T' { g with pc := g.pc + 3, stack := v.toList ++ rest }) : own_Ends p e below s C S Qv T g := by
  obtain ⟨cq, kq, q1, q2, q3⟩ := isOf hZ eT E
  obtain ⟨v, _, ⟨T', L', k', n'⟩, -, X', ⟨Lc, hQ, l1, y1, z1⟩, st⟩ := X.virtualBack hx (y := y) (z := y) hown (mvT hZ w1) (mvT hZ w5) (notFace_of_selects (args := #[]) (mvT hZ w6)) (mvT hZ w6) (mvT hZ w2) hy (backOf (W := W) hM hZ w4 w3 hf hl) q1 q3 (g := g) hg hsize (Steps.refl _) (argsL := argsL) (rest := rest) hlen hstack hW hd (fun _ _ => ⟨has, eT, hC, hS⟩)
  dsimp only [Pt.U, Pt.locs, Pt.cells, Pt.slots] at X' l1 y1 z1 st hQ
  subst l1 y1 z1
  exact own_go _ (fun t q => st.trans q) (k v T' _ Lc X' rfl hQ)
theorem own_callP (X : Stand p l e R s m args below meth c T locs cells slots) (hx : p.tables.exec = Jvm.exec) (hZ : Z.Warmed39 s.vm) {own C0 : String} {index kk : Nat} {y : MethodName} {bytes : ByteArray} {maxL : Nat} {ret : Option FieldType} {rm : Room} {as' : Array Value} {Q : Option Value → Heap → List Loc → Prop}
    (hown : s.vm.findClass own = some m.cls) (w1 : (Jvm.Cond.methodLink own index y).before a0 Z = true) (w2 : (Jvm.Cond.instanceMethod y).before a0 Z = true) (wi : (Jvm.Cond.instantiable y.cls kk).before a0 Z = true) (w5 : (Jvm.Cond.privateMethod y).before a0 Z = true) (w3 : (Jvm.Cond.initialized y.cls).before a0 Z = true) (w4 : (Jvm.Cond.code y bytes maxL ret).before a0 Z = true)
    (hy : y.cls ≠ "java/lang/invoke/MethodHandle" ∧ y.cls ≠ "java/lang/invoke/VarHandle") (eT : T.heap = h) (a : Addr) (E : Exa Z h a C0) (hM : own_Met l Z y bytes maxL ret rm as' h Q)
    (W : Nat) (hf : rm.frames + 1 ≤ R.frames) (hl : W + (maxL + 11) + rm.locals ≤ R.locals) (hC : cells + rm.cells ≤ R.cells) (hS : slots + rm.slots ≤ R.slots)
    {g : JFrame} (hg : g.method = m) (hsize : g.locals.size = c.maxLocals) (argsL rest : List Value) (hlen : ∀ sig, parseMethodDescriptor y.desc = some sig → argsL.length = sig.parameters.length)
    (hstack : g.stack = argsL.reverse ++ .ref a :: rest) (has : (Value.ref a :: argsL).toArray = as') (hW : 2 * g.monitorRoom + (rest.map fun v => v.category).sum ≤ W) (hd : decode c.code g.pc = .ok (.invokevirtual index, 3))
    (k : ∀ v T' h' L, Stand p l e R s m args below meth c T' (locs ++ L) (cells + rm.cells) (slots + rm.slots) → T'.heap = h' → Q v h' L → own_Ends p e below s C S Qv T' { g with pc := g.pc + 3, stack := v.toList ++ rest }) : own_Ends p e below s C S Qv T g := by
  obtain ⟨cq, q1, q2⟩ := E.cell
  have hp := Cond.privateMethod_at (mvP hZ w5 (args := #[]))
  obtain ⟨c2, k2, i1, i2, i3, i4, -⟩ := Cond.instantiable_spec (mvT (args := args) hZ wi)
  have hni : k2.isInterface = false := (Bool.or_eq_false_iff.mp i4).1
  have w6 := selects_self_of_private i1 i2 hni hp (mvT (args := args) hZ w2) hy
  obtain ⟨v, _, ⟨T', L', k', n'⟩, -, X', ⟨Lc, hQ, l1, y1, z1⟩, st⟩ := X.privateBack hx (y := y) hown (mvT hZ w1) (mvT hZ w2) w6 hp (mvT hZ w4) hy (backOf (W := W) hM hZ w4 w3 hf hl) (g := g) hg hsize (Steps.refl _) (a := a) (by rw [eT]; exact q1) q2 (argsL := argsL) (rest := rest) hlen hstack hW hd (fun _ _ => ⟨has, eT, hC, hS⟩)
  dsimp only [Pt.U, Pt.locs, Pt.cells, Pt.slots] at X' l1 y1 z1 st hQ
  subst l1 y1 z1
  exact own_go _ (fun t q => st.trans q) (k v T' _ Lc X' rfl hQ)
abbrev own_rel (cd : ClassFile.Cond) (a b : Int) : Prop := match cd with | .eq => a = b | .ne => ¬ a = b | .lt => a < b | .ge => b ≤ a | .gt => b < a | .le => a ≤ b
theorem own_icT {cd : ClassFile.Cond} {x y : Int32} (h : own_rel cd x.toInt y.toInt) : if_icmp.holds cd x y = true := by
  cases cd <;> simp [own_rel] at h <;> simp [if_icmp.holds, Int32.lt_iff_toInt_lt, Int32.le_iff_toInt_le, ← Int32.toInt_inj, h]
theorem own_icF {cd : ClassFile.Cond} {x y : Int32} (h : ¬ own_rel cd x.toInt y.toInt) : if_icmp.holds cd x y = false := by
  cases cd <;> simp [own_rel] at h <;> simp [if_icmp.holds, Int32.lt_iff_toInt_lt, Int32.le_iff_toInt_le, ← Int32.toInt_inj, h]
theorem own_zT {cd : ClassFile.Cond} {x : Int32} (h : own_rel cd x.toInt 0) : ifCond.holds cd x = true := (if0 cd x).trans (own_icT h)
theorem own_zF {cd : ClassFile.Cond} {x : Int32} (h : ¬ own_rel cd x.toInt 0) : ifCond.holds cd x = false := (if0 cd x).trans (own_icF h)
theorem own_cmp (cd : ClassFile.Cond) (x y : Int64) : own_rel cd (lcmpW x y).toInt 0 ↔ own_rel cd x.toInt y.toInt := by
  have h := c_lcmp x y
  cases cd <;> simp only [own_rel] <;> omega
theorem own_lcT {cd : ClassFile.Cond} {x y : Int64} (h : own_rel cd x.toInt y.toInt) : ifCond.holds cd (lcmpW x y) = true := own_zT ((own_cmp cd x y).mpr h)
theorem own_lcF {cd : ClassFile.Cond} {x y : Int64} (h : ¬ own_rel cd x.toInt y.toInt) : ifCond.holds cd (lcmpW x y) = false := own_zF (fun q => h ((own_cmp cd x y).mp q))
theorem own_xorm1 (x : Int64) : (x ^^^ (-1 : Int64)).toInt = -x.toInt - 1 := by
  have h : x ^^^ (-1 : Int64) = ~~~x := by
    apply Int64.toBitVec_inj.mp
    show x.toBitVec ^^^ BitVec.ofInt 64 (-1) = ~~~x.toBitVec
    have : BitVec.ofInt 64 (-1) = BitVec.allOnes 64 := by decide
    rw [this, BitVec.xor_allOnes]
  rw [h, Int64.toInt_not]
  have := rng64 x
  have e : (-x.toInt - 1).bmod (2 ^ 64) = -x.toInt - 1 := by
    rw [Int.bmod_eq_of_le] <;> omega
  first | exact e | omega
theorem own_nz32 {y : Int32} (h : ¬ y.toInt = 0) : y ≠ 0 := fun q => h (by rw [q]; rfl)
theorem own_nz64 {y : Int64} (h : ¬ y.toInt = 0) : y ≠ 0 := fun q => h (by rw [q]; rfl)
theorem own_lremV (x y : Int64) : 0 ≤ x.toInt → 0 < y.toInt → 0 ≤ (x - (x / y) * y).toInt ∧ (x - (x / y) * y).toInt < y.toInt ∧ (x - (x / y) * y).toInt ≤ x.toInt := by
  intro h0 h1
  rw [(c_lrem x y y.toInt rfl).1 h0]
  refine ⟨Int.emod_nonneg _ (by omega), Int.emod_lt_of_pos _ h1, ?_⟩
  have := Int.emod_add_mul_ediv x.toInt y.toInt
  have h2 : 0 ≤ x.toInt / y.toInt := Int.ediv_nonneg h0 (by omega)
  have h3 : 0 ≤ y.toInt * (x.toInt / y.toInt) := Int.mul_nonneg (by omega) h2
  omega
theorem own_iremV (x y : Int32) : 0 ≤ x.toInt → 0 < y.toInt → 0 ≤ (x % y).toInt ∧ (x % y).toInt < y.toInt ∧ (x % y).toInt ≤ x.toInt := fun h0 h1 =>
  have h := (c_iremV x y).1 h0 h1
  ⟨h.1, h.2.1, h.2.2.1⟩
end Own
section OwnArr
variable {p : Program} {l : Launch} {e : Env} {R : Room} {s : State} {m : MethodId} {args : Array Value} {below : List Frame} {meth : Method} {c : Code} {T T' : State} {locs : List Loc} {cells slots C S : Nat} {Qv : Option Value → Heap → List Loc → Prop} {Z : State} {a0 : Array Value} {h h' : Heap} {a b : Addr} {ty : FieldType} {n sl : Nat} {f : Nat → Value} {v : Value}
/-- an array of kind ty, n long, whose i-th place holds f i -/
def own_Av (Z : State) (h : Heap) (a : Addr) (ty : FieldType) (n : Nat) (f : Nat → Value) : Prop := ∃ c : Cell, Arr Z h a c ty ∧ c.slots.size = n ∧ ∀ i, i < n → c.slots[i]? = some (f i)
theorem own_Av.lt (F : own_Av Z h a ty n f) : a < h.size := by obtain ⟨c, A, -⟩ := F; exact A.lt
theorem own_Av.ext (F : own_Av Z h a ty n f) (E : Ext h h') : own_Av Z h' a ty n f := by obtain ⟨c, A, r⟩ := F; exact ⟨c, A.ext E, r⟩
theorem own_Av.other (F : own_Av Z h b ty n f) (W : Wr h h' a sl v) (q : b ≠ a) : own_Av Z h' b ty n f := by obtain ⟨c, A, r⟩ := F; exact ⟨c, A.other W q, r⟩
theorem own_Av.keep {ws : List Addr} (F : own_Av Z h a ty n f) (K : Keep h h' ws) (q : a ∉ ws) : own_Av Z h' a ty n f := by obtain ⟨c, A, r⟩ := F; exact ⟨c, ⟨K.2.1 a c A.1 q, A.2⟩, r⟩
theorem own_Av.set (F : own_Av Z h a ty n f) {j : Nat} (W : Wr h h' a j v) : own_Av Z h' a ty n (fun i => if i = j then v else f i) := by
  obtain ⟨c, A, hs, H⟩ := F
  refine ⟨c.setSlot j v, A.same W, by rw [sz_set]; exact hs, fun i hi => ?_⟩
  have hj : j < c.slots.size ∨ ¬ j < c.slots.size := Classical.em _
  show (c.slots.setIfInBounds j v)[i]? = some (if i = j then v else f i)
  by_cases q : i = j
  · subst q; simp [hs, hi]
  · rw [if_neg q, Array.getElem?_setIfInBounds_ne (Ne.symm q)]; exact H i hi
abbrev own_AI (Z : State) (h : Heap) (a : Addr) (ty : FieldType) (n : Nat) (F : Nat → Int32) : Prop := own_Av Z h a ty n (fun i => .int (F i))
abbrev own_AL (Z : State) (h : Heap) (a : Addr) (n : Nat) (F : Nat → Int64) : Prop := own_Av Z h a .long n (fun i => .long (F i))
theorem own_Av.eq {f' : Nat → Value} (F : own_Av Z h a ty n f) (q : ∀ i, i < n → f i = f' i) : own_Av Z h a ty n f' := by obtain ⟨c, A, hs, H⟩ := F; exact ⟨c, A, hs, fun i hi => by rw [← q i hi]; exact H i hi⟩
theorem own_idx {j : Int32} (h0 : 0 ≤ j.toInt) (h1 : j.toInt < n) : ¬ (j < 0 ∨ n ≤ j.toNatClampNeg) ∧ j.toNatClampNeg = j.toInt.toNat := by
  have e : j.toNatClampNeg = j.toInt.toNat := rfl
  refine ⟨fun q => ?_, e⟩
  rcases q with q | q
  · rw [Int32.lt_iff_toInt_lt] at q; have : (0 : Int32).toInt = 0 := rfl; omega
  · rw [e] at q; omega
theorem own_nn {j : Int32} (h0 : 0 ≤ j.toInt) : ¬ j < 0 := fun q => by rw [Int32.lt_iff_toInt_lt] at q; have : (0 : Int32).toInt = 0 := rfl; omega
theorem own_newarr (X : Stand p l e R s m args below meth c T locs cells slots) (hx : p.tables.exec = Jvm.exec) (hZ : Z.Warmed39 s.vm) {aty : ArrayType} (w : (Jvm.Cond.arrayClass (newarray.typeOf aty)).before a0 Z = true) (eT : T.heap = h) {g : JFrame} (hg : g.method = m) (hd : decode c.code g.pc = .ok (.newarray aty, 2)) {z : Int32} {rest : List Value} (hs : g.stack = .int z :: rest)
    (hz : 0 ≤ z.toInt) (cap : Nat) (hcap : z.toInt ≤ cap) (hb : cap * 8 ≤ 536870912) (hc : cells + 1 ≤ R.cells) (hl : slots + cap ≤ R.slots)
    (k : ∀ T' h' b, Stand p l e R s m args below meth c T' locs (cells + 1) (slots + cap) → T'.heap = h' → Ext h h' → b = h.size → own_Av Z h' b (newarray.typeOf aty) z.toInt.toNat (fun _ => defaultValue (newarray.typeOf aty)) → own_Ends p e below s C S Qv T' { g with pc := g.pc + 2, stack := .ref b :: rest }) : own_Ends p e below s C S Qv T g := by
  have e1 : z.toNatClampNeg = z.toInt.toNat := rfl
  obtain ⟨T', h', cA, X', e', E, A, st⟩ := newP X hx hZ w eT hg hd hs (own_nn hz) (cap := cap) (by rw [e1]; omega) hb hc hl
  refine own_go _ st (k T' h' _ X' e' E rfl ⟨_, A, sz_new _ _ _, fun i hi => ?_⟩)
  show (Array.replicate _ _)[i]? = _
  rw [Array.getElem?_replicate, if_pos (by rw [e1]; exact hi)]
theorem own_alen (X : Stand p l e R s m args below meth c T locs cells slots) (hx : p.tables.exec = Jvm.exec) (hZ : Z.Warmed39 s.vm) (eT : T.heap = h) (A : own_Av Z h a ty n f) (z : Int32) (hz : z.toInt = n) {g : JFrame} (hg : g.method = m) {rest : List Value} (hs : g.stack = .ref a :: rest) (hd : decode c.code g.pc = .ok (.arraylength, 1))
    (k : own_Ends p e below s C S Qv T { g with pc := g.pc + 1, stack := .int z :: rest }) : own_Ends p e below s C S Qv T g := by
  obtain ⟨cl, A, hn, -⟩ := A
  have e1 : cl.slots.size.toInt32 = z := by
    rw [hn]
    have r := rng32 z
    apply Int32.toInt_inj.mp
    rw [hz]
    show (Int32.ofNat n).toInt = n
    rw [Int32.toInt_ofNat_of_lt (by omega)]
  refine own_go _ (fun t q => X.arraylength hx (by rw [eT]; exact A.1) (State.isArrayOf_alike hZ.alike A.2.1) hg hs hd t (by rw [e1]; exact q)) k
theorem own_iaload (X : Stand p l e R s m args below meth c T locs cells slots) (hx : p.tables.exec = Jvm.exec) (hZ : Z.Warmed39 s.vm) (eT : T.heap = h) {F : Nat → Int32} (A : own_AI Z h a .int n F) {j : Int32} (h0 : 0 ≤ j.toInt) (h1 : j.toInt < n) {g : JFrame} (hg : g.method = m) {rest : List Value} (hs : g.stack = .int j :: .ref a :: rest) (hd : decode c.code g.pc = .ok (.iaload, 1))
    (k : own_Ends p e below s C S Qv T { g with pc := g.pc + 1, stack := .int (F j.toInt.toNat) :: rest }) : own_Ends p e below s C S Qv T g := by
  obtain ⟨cl, A, hn, H⟩ := A
  have q := own_idx h0 h1
  exact own_go _ (fun t r => X.iaload hx (by rw [eT]; exact A.1) (State.isArrayOf_alike hZ.alike A.2.1) A.2.2 (by rw [hn]; exact q.1) (by rw [q.2]; exact H _ (by omega)) hg hs hd t r) k
theorem own_baload (X : Stand p l e R s m args below meth c T locs cells slots) (hx : p.tables.exec = Jvm.exec) (hZ : Z.Warmed39 s.vm) (eT : T.heap = h) {F : Nat → Int32} (A : own_AI Z h a .byte n F) {j : Int32} (h0 : 0 ≤ j.toInt) (h1 : j.toInt < n) {g : JFrame} (hg : g.method = m) {rest : List Value} (hs : g.stack = .int j :: .ref a :: rest) (hd : decode c.code g.pc = .ok (.baload, 1))
    (k : own_Ends p e below s C S Qv T { g with pc := g.pc + 1, stack := .int (F j.toInt.toNat) :: rest }) : own_Ends p e below s C S Qv T g := by
  obtain ⟨cl, A, hn, H⟩ := A
  have q := own_idx h0 h1
  exact own_go _ (fun t r => X.baloadBytes hx (by rw [eT]; exact A.1) (State.isArrayOf_alike hZ.alike A.2.1) A.2.2 (by rw [hn]; exact q.1) (by rw [q.2]; exact H _ (by omega)) hg hs hd t r) k
theorem own_laload (X : Stand p l e R s m args below meth c T locs cells slots) (hx : p.tables.exec = Jvm.exec) (hZ : Z.Warmed39 s.vm) (eT : T.heap = h) {F : Nat → Int64} (A : own_AL Z h a n F) {j : Int32} (h0 : 0 ≤ j.toInt) (h1 : j.toInt < n) {g : JFrame} (hg : g.method = m) {rest : List Value} (hs : g.stack = .int j :: .ref a :: rest) (hd : decode c.code g.pc = .ok (.laload, 1))
    (k : own_Ends p e below s C S Qv T { g with pc := g.pc + 1, stack := .long (F j.toInt.toNat) :: rest }) : own_Ends p e below s C S Qv T g := by
  obtain ⟨cl, A, hn, H⟩ := A
  have q := own_idx h0 h1
  exact own_go _ (fun t r => X.laload hx (by rw [eT]; exact A.1) (State.isArrayOf_alike hZ.alike A.2.1) A.2.2 (by rw [hn]; exact q.1) (by rw [q.2]; exact H _ (by omega)) hg hs hd t r) k
theorem own_iastore (X : Stand p l e R s m args below meth c T locs cells slots) (hx : p.tables.exec = Jvm.exec) (hZ : Z.Warmed39 s.vm) (eT : T.heap = h) {F : Nat → Int32} (A : own_AI Z h a .int n F) {j : Int32} {x : Int32} (h0 : 0 ≤ j.toInt) (h1 : j.toInt < n) {g : JFrame} (hg : g.method = m) {rest : List Value} (hs : g.stack = .int x :: .int j :: .ref a :: rest) (hd : decode c.code g.pc = .ok (.iastore, 1))
    (k : ∀ T' h' F', Stand p l e R s m args below meth c T' (locs ++ [⟨a, j.toInt.toNat⟩]) cells slots → T'.heap = h' → Wr h h' a j.toInt.toNat (.int x) → (F' = fun i => if i = j.toInt.toNat then x else F i) → own_AI Z h' a .int n F' → own_Ends p e below s C S Qv T' { g with pc := g.pc + 1, stack := rest }) : own_Ends p e below s C S Qv T g := by
  obtain ⟨cl, Ar, hn, H⟩ := id A
  have q := own_idx h0 h1
  obtain ⟨T', h', X', e', W, st⟩ := stI X hx hZ eT Ar (j := j) (by rw [hn]; exact q.1) hg hs hd
  skip
  exact own_go _ st (k T' h' _ X' e' W rfl ((own_Av.set A W).eq fun i _ => by
    show (if i = j.toInt.toNat then Value.int x else Value.int (F i)) = Value.int (if i = j.toInt.toNat then x else F i)
    by_cases q : i = j.toInt.toNat
    · rw [if_pos q, if_pos q]
    · rw [if_neg q, if_neg q]))
theorem own_lastore (X : Stand p l e R s m args below meth c T locs cells slots) (hx : p.tables.exec = Jvm.exec) (hZ : Z.Warmed39 s.vm) (eT : T.heap = h) {F : Nat → Int64} (A : own_AL Z h a n F) {j : Int32} {x : Int64} (h0 : 0 ≤ j.toInt) (h1 : j.toInt < n) {g : JFrame} (hg : g.method = m) {rest : List Value} (hs : g.stack = .long x :: .int j :: .ref a :: rest) (hd : decode c.code g.pc = .ok (.lastore, 1))
    (k : ∀ T' h' F', Stand p l e R s m args below meth c T' (locs ++ [⟨a, j.toInt.toNat⟩]) cells slots → T'.heap = h' → Wr h h' a j.toInt.toNat (.long x) → (F' = fun i => if i = j.toInt.toNat then x else F i) → own_AL Z h' a n F' → own_Ends p e below s C S Qv T' { g with pc := g.pc + 1, stack := rest }) : own_Ends p e below s C S Qv T g := by
  obtain ⟨cl, Ar, hn, H⟩ := id A
  have q := own_idx h0 h1
  obtain ⟨T', h', X', e', W, st⟩ := stJ X hx hZ eT Ar (j := j) (by rw [hn]; exact q.1) hg hs hd
  skip
  exact own_go _ st (k T' h' _ X' e' W rfl ((own_Av.set A W).eq fun i _ => by
    show (if i = j.toInt.toNat then Value.long x else Value.long (F i)) = Value.long (if i = j.toInt.toNat then x else F i)
    by_cases q : i = j.toInt.toNat
    · rw [if_pos q, if_pos q]
    · rw [if_neg q, if_neg q]))
theorem own_bastore (X : Stand p l e R s m args below meth c T locs cells slots) (hx : p.tables.exec = Jvm.exec) (hZ : Z.Warmed39 s.vm) (eT : T.heap = h) {F : Nat → Int32} (A : own_AI Z h a .byte n F) {j : Int32} {x x0 : Int32} (h0 : 0 ≤ j.toInt) (h1 : j.toInt < n) (hy : nar .byte x0 = x) {g : JFrame} (hg : g.method = m) {rest : List Value} (hs : g.stack = .int x0 :: .int j :: .ref a :: rest) (hd : decode c.code g.pc = .ok (.bastore, 1))
    (k : ∀ T' h' F', Stand p l e R s m args below meth c T' (locs ++ [⟨a, j.toInt.toNat⟩]) cells slots → T'.heap = h' → Wr h h' a j.toInt.toNat (.int x) → (F' = fun i => if i = j.toInt.toNat then x else F i) → own_AI Z h' a .byte n F' → own_Ends p e below s C S Qv T' { g with pc := g.pc + 1, stack := rest }) : own_Ends p e below s C S Qv T g := by
  obtain ⟨cl, Ar, hn, H⟩ := id A
  have q := own_idx h0 h1
  obtain ⟨T', h', X', e', W, st⟩ := stB X hx hZ eT Ar (j := j) (by rw [hn]; exact q.1) hg hs hd
  rw [hy] at W
  exact own_go _ st (k T' h' _ X' e' W rfl ((own_Av.set A W).eq fun i _ => by
    show (if i = j.toInt.toNat then Value.int x else Value.int (F i)) = Value.int (if i = j.toInt.toNat then x else F i)
    by_cases q : i = j.toInt.toNat
    · rw [if_pos q, if_pos q]
    · rw [if_neg q, if_neg q]))
end OwnArr
section OwnRefs
variable {p : Program} {l : Launch} {e : Env} {R : Room} {s : State} {m : MethodId} {args : Array Value} {below : List Frame} {meth : Method} {c : Code} {T T' : State} {locs : List Loc} {cells slots C S : Nat} {Qv : Option Value → Heap → List Loc → Prop} {Z : State} {a0 : Array Value} {h h' : Heap} {a b : Addr} {n sl : Nat} {v : Value}
/-- an array of objects, of length 0 -/
def own_Ae (Z : State) (h : Heap) (a : Addr) : Prop := ∃ c : Cell, Arr Z h a c (.object "java/lang/Object") ∧ c.slots.size.toInt32 = 0
theorem own_Ae.ext (F : own_Ae Z h a) (E : Ext h h') : own_Ae Z h' a := by obtain ⟨c, A, r⟩ := F; exact ⟨c, A.ext E, r⟩
theorem own_Ae.start {t : Term} {args : Array Value} (ev : t.eval args Z none [] Z = some (.ref a)) (h1 : (Jvm.Cond.arrayOf t (.object "java/lang/Object")).value args Z none Z [] = some true) (h2 : (Jvm.Cond.eq (Term.length t) (Term.int 0)).value args Z none Z [] = some true) : own_Ae Z Z.heap a := by
  obtain ⟨c, A⟩ := Arr.start ev h1
  refine ⟨c, A, ?_⟩
  obtain ⟨x, y, hx, hy, -⟩ := cmp_v (Or.inl h2)
  obtain ⟨b, cell, e1, e2, rfl⟩ := Term.length_spec hx
  cases ev.symm.trans e1
  have e3 := Arr.fin (Vm.Alike.refl _) A
  cases e3.symm.trans e2
  exact gotT (Cond.eq_ints hx (Term.int_eval 0)) h2
theorem own_alen0 (X : Stand p l e R s m args below meth c T locs cells slots) (hx : p.tables.exec = Jvm.exec) (hZ : Z.Warmed39 s.vm) (eT : T.heap = h) (A : own_Ae Z h a) {g : JFrame} (hg : g.method = m) {rest : List Value} (hs : g.stack = .ref a :: rest) (hd : decode c.code g.pc = .ok (.arraylength, 1))
    (k : own_Ends p e below s C S Qv T { g with pc := g.pc + 1, stack := .int 0 :: rest }) : own_Ends p e below s C S Qv T g := by
  obtain ⟨cl, A, hn⟩ := A
  refine own_go _ (fun t q => X.arraylength hx (by rw [eT]; exact A.1) (State.isArrayOf_alike hZ.alike A.2.1) hg hs hd t (by rw [hn]; exact q)) k
/-- an array of objects, n long, that takes any object -/
def own_Ao (Z : State) (h : Heap) (a : Addr) (n : Nat) : Prop := ∃ c : Cell, Arr Z h a c (.object "java/lang/Object") ∧ c.slots.size = n ∧ Ovr Z c.cls "java/lang/Object"
theorem own_Ao.lt (F : own_Ao Z h a n) : a < h.size := by obtain ⟨c, A, -⟩ := F; exact A.lt
theorem own_Ao.ext (F : own_Ao Z h a n) (E : Ext h h') : own_Ao Z h' a n := by obtain ⟨c, A, r⟩ := F; exact ⟨c, A.ext E, r⟩
theorem own_Ao.other (F : own_Ao Z h b n) (W : Wr h h' a sl v) (q : b ≠ a) : own_Ao Z h' b n := by obtain ⟨c, A, r⟩ := F; exact ⟨c, A.other W q, r⟩
theorem own_Ao.keep {ws : List Addr} (F : own_Ao Z h a n) (K : Keep h h' ws) (q : a ∉ ws) : own_Ao Z h' a n := by obtain ⟨c, A, r⟩ := F; exact ⟨c, ⟨K.2.1 a c A.1 q, A.2⟩, r⟩
theorem own_newobjs (X : Stand p l e R s m args below meth c T locs cells slots) (hx : p.tables.exec = Jvm.exec) (hZ : Z.Warmed39 s.vm) {own : String} {index : Nat} (hown : s.vm.findClass own = some m.cls) (w1 : (Jvm.Cond.classLink own index "java/lang/Object").before a0 Z = true) (w2 : (Jvm.Cond.arrayOver (.object "java/lang/Object")).before a0 Z = true)
    (eT : T.heap = h) {g : JFrame} (hg : g.method = m) (hd : decode c.code g.pc = .ok (.anewarray index, 3)) {z : Int32} {rest : List Value} (hs : g.stack = .int z :: rest) (hz : 0 ≤ z.toInt) (cap : Nat) (hcap : z.toInt ≤ cap) (hb : cap * 8 ≤ 536870912) (hc : cells + 1 ≤ R.cells) (hl : slots + cap ≤ R.slots)
    (k : ∀ T' h' b, Stand p l e R s m args below meth c T' locs (cells + 1) (slots + cap) → T'.heap = h' → Ext h h' → b = h.size → own_Ao Z h' b z.toInt.toNat → own_Ends p e below s C S Qv T' { g with pc := g.pc + 3, stack := .ref b :: rest }) : own_Ends p e below s C S Qv T g := by
  have e1 : z.toNatClampNeg = z.toInt.toNat := rfl
  obtain ⟨T', h', cA, X', e', E, A, O, st⟩ := newR X hx hZ hown w1 w2 eT hg hd hs (own_nn hz) (cap := cap) (by rw [e1]; omega) hb hc hl
  exact own_go _ st (k T' h' _ X' e' E rfl ⟨_, A, sz_new _ _ _, O⟩)
theorem own_aastore (X : Stand p l e R s m args below meth c T locs cells slots) (hx : p.tables.exec = Jvm.exec) (hZ : Z.Warmed39 s.vm) (eT : T.heap = h) (A : own_Ao Z h a n) {j : Int32} (h0 : 0 ≤ j.toInt) (h1 : j.toInt < n) {y : Addr} (I : Ins Z h y "java/lang/Object" true) {g : JFrame} (hg : g.method = m) {rest : List Value} (hs : g.stack = .ref y :: .int j :: .ref a :: rest) (hd : decode c.code g.pc = .ok (.aastore, 1))
    (k : ∀ T' h', Stand p l e R s m args below meth c T' (locs ++ [⟨a, j.toInt.toNat⟩]) cells slots → T'.heap = h' → Wr h h' a j.toInt.toNat (.ref y) → own_Ends p e below s C S Qv T' { g with pc := g.pc + 1, stack := rest }) : own_Ends p e below s C S Qv T g := by
  obtain ⟨cl, Ar, hn, O⟩ := A
  have q := own_idx h0 h1
  obtain ⟨T', h', X', e', W, st⟩ := stR X hx hZ eT Ar (j := j) (by rw [hn]; exact q.1) rfl (Sto.of Ar O I) hg hs hd
  exact own_go _ st (k T' h' X' e' W)
theorem own_newbytes (X : Stand p l e R s m args below meth c T locs cells slots) (hx : p.tables.exec = Jvm.exec) (hZ : Z.Warmed39 s.vm) (w : (Jvm.Cond.arrayClass (newarray.typeOf .byte)).before a0 Z = true) (eT : T.heap = h) {g : JFrame} (hg : g.method = m) (hd : decode c.code g.pc = .ok (.newarray .byte, 2)) {z : Int32} {rest : List Value} (hs : g.stack = .int z :: rest)
    (hz : 0 ≤ z.toInt) (cap : Nat) (hcap : z.toInt ≤ cap) (hb : cap * 8 ≤ 536870912) (hc : cells + 1 ≤ R.cells) (hl : slots + cap ≤ R.slots)
    (k : ∀ T' h' b, Stand p l e R s m args below meth c T' locs (cells + 1) (slots + cap) → T'.heap = h' → Ext h h' → b = h.size → Exa Z h' b "[B" → own_Ends p e below s C S Qv T' { g with pc := g.pc + 2, stack := .ref b :: rest }) : own_Ends p e below s C S Qv T g := by
  have e1 : z.toNatClampNeg = z.toInt.toNat := rfl
  obtain ⟨T', h', cA, X', e', E, A, Ex, st⟩ := newPE X hx hZ w eT hg hd hs (own_nn hz) (cap := cap) (by rw [e1]; omega) hb hc hl (ad := "[B") (by decide)
  exact own_go _ st (k T' h' _ X' e' E rfl Ex)
theorem own_callF (X : Stand p l e R s m args below meth c T locs cells slots) (hx : p.tables.exec = Jvm.exec) (hZ : Z.Warmed39 s.vm) {own C0 : String} {index count : Nat} {xi y : MethodName} {bytes : ByteArray} {maxL : Nat} {ret : Option FieldType} {rm : Room} {as' : Array Value} {Q : Option Value → Heap → List Loc → Prop}
    (hown : s.vm.findClass own = some m.cls) (w1 : (Jvm.Cond.methodLink own index xi).before a0 Z = true) (w5 : (Jvm.Cond.declares xi).before a0 Z = true) (w7 : (Jvm.Cond.interfaceMethod xi.cls xi.cls xi.name xi.desc).before args s = true) (w6 : (Jvm.Cond.selects C0 xi y).before a0 Z = true) (w2 : (Jvm.Cond.instanceMethod y).before a0 Z = true) (w8 : (Jvm.Cond.publicMethod y).before a0 Z = true) (w9 : (Jvm.Cond.unhidden C0 xi.name xi.desc).before a0 Z = true) (w10 : (Jvm.Cond.castable C0 xi.cls).before a0 Z = true) (w3 : (Jvm.Cond.initialized y.cls).before a0 Z = true) (w4 : (Jvm.Cond.code y bytes maxL ret).before a0 Z = true)
    (hy : xi.cls ≠ "java/lang/invoke/MethodHandle" ∧ xi.cls ≠ "java/lang/invoke/VarHandle") (eT : T.heap = h) (a : Addr) (E : Exa Z h a C0) (hM : own_Met l Z y bytes maxL ret rm as' h Q)
    (W : Nat) (hf : rm.frames + 1 ≤ R.frames) (hl : W + (maxL + 11) + rm.locals ≤ R.locals) (hC : cells + rm.cells ≤ R.cells) (hS : slots + rm.slots ≤ R.slots)
    {g : JFrame} (hg : g.method = m) (hsize : g.locals.size = c.maxLocals) (argsL rest : List Value) (hlen : ∀ sig, parseMethodDescriptor xi.desc = some sig → argsL.length = sig.parameters.length)
    (hstack : g.stack = argsL.reverse ++ .ref a :: rest) (has : (Value.ref a :: argsL).toArray = as') (hW : 2 * g.monitorRoom + (rest.map fun v => v.category).sum ≤ W) (hd : decode c.code g.pc = .ok (.invokeinterface index count, 5))
    (k : ∀ v T' h' L, Stand p l e R s m args below meth c T' (locs ++ L) (cells + rm.cells) (slots + rm.slots) → T'.heap = h' → Q v h' L → own_Ends p e below s C S Qv T' { g with pc := g.pc + 5, stack := v.toList ++ rest }) : own_Ends p e below s C S Qv T g := by
  obtain ⟨cq, kq, q1, q2, q3⟩ := isOf hZ eT E
  obtain ⟨v, _, ⟨T', L', k', n'⟩, -, X', ⟨Lc, hQ, l1, y1, z1⟩, st⟩ := X.interfaceBack hx (xi := xi) (y := y) hown (mvT hZ w1) (mvT hZ w5) w7 (mvT hZ w6) (mvT hZ w2) (mvT hZ w8) (mvT hZ w9) (mvT hZ w10) hy (backOf (W := W) hM hZ w4 w3 hf hl) q1 q2 q3 (g := g) hg hsize (Steps.refl _) (argsL := argsL) (rest := rest) hlen hstack hW hd (fun _ _ => ⟨has, eT, hC, hS⟩)
  dsimp only [Pt.U, Pt.locs, Pt.cells, Pt.slots] at X' l1 y1 z1 st hQ
  subst l1 y1 z1
  exact own_go _ (fun t q => st.trans q) (k v T' _ Lc X' rfl hQ)
end OwnRefs
theorem dac_0 : decode jdk_22_method_1_code 0 = .ok (.aload_n 0, 1) := by decide +kernel
theorem dac_1 : decode jdk_22_method_1_code 1 = .ok (.invokespecial 1, 3) := by decide +kernel
theorem dac_4 : decode jdk_22_method_1_code 4 = .ok (.return_, 1) := by decide +kernel
theorem pfac : plainFor (⟨"java/util/AbstractCollection", "<init>", "()V"⟩ : MethodName) = true := by decide +kernel
set_option maxHeartbeats 4000000 in
theorem efac (m : MethodId) (a : Addr) : entryFrame m #[(.ref a)] 1 = (mkF m 0 #[.val (.ref a)] []) := by first | (simp [entryFrame, mkF, argsToLocals, Value.category, maxLocals]; done) | rfl
def Qac (Z : State) (a : Addr) (h0 : Heap) (n0 : Nat) (v : Option Value) (h : Heap) (L : List Loc) : Prop := v = none ∧ Fr n0 L ∧ h = h0
set_option maxRecDepth 65536 in
set_option maxHeartbeats 40000000 in
theorem rmac (l : Launch) (Z : State) (a0 : Array Value) (hw : ∀ d ∈ tables_1, d.before a0 Z = true) (ws : List Jvm.Cond) (a : Addr) (h0 : Heap) (n0 : Nat) (Z0 : n0 ≤ h0.size) :
    MetFree l (⟨"java/util/AbstractCollection", "<init>", "()V"⟩ : MethodName) (head1 (Jvm.Cond.code (⟨"java/util/AbstractCollection", "<init>", "()V"⟩ : MethodName) jdk_22_method_1_code 1 none :: ws) ({ frames := 1, cells := 0, slots := 0, locals := 12 } : Room)) (fun aa U => aa = #[(.ref a)] ∧ Z.Warmed39 U.vm ∧ U.heap = h0) (fun _ _ _ _ _ => True) (fun _ U o U' => ∃ v L, o = .returned v ∧ Qac Z a h0 n0 v U'.heap L ∧ FrameEnd U o U' L ({ frames := 1, cells := 0, slots := 0, locals := 12 } : Room).cells ({ frames := 1, cells := 0, slots := 0, locals := 12 } : Room).slots) := by
  refine own_met pfac ?_
  intro p e s m below meth c T0 hx hby hml hown hret hlk hnm hZ X0 e0
  have N0 := Fr.nil n0
  rw [efac]
  refine own_go (mkF m 1 #[.val (.ref a)] [(.ref a)]) (fun t k => XS.aloadN X0.here hx rfl (hb hby dac_0) rfl rfl k) ?_
  obtain ⟨T1, X1, e1, st1⟩ := initO X0 hx hZ hown (hw _ (List.mem_of_getElem? (i := 46) rfl)) (hw _ (List.mem_of_getElem? (i := 11) rfl)) (hw _ (List.mem_of_getElem? (i := 12) rfl)) e0 (g := (mkF m 1 #[.val (.ref a)] [(.ref a)])) rfl (by rw [hml]; rfl) rfl (hb hby dac_1) (by decide) (W := 0) (by show 2 * 0 + _ ≤ _; exact Nat.le_of_eq rfl) (by decide)
  refine own_go (T' := T1) (mkF m 4 #[.val (.ref a)] []) st1 ?_
  refine own_ret0 X1 hx hlk hret (hb hby dac_4) (by decide) (by decide) ?_
  rw [e1]
  exact ⟨rfl, N0, rfl⟩
theorem dab_0 : decode jdk_39_method_1_code 0 = .ok (.aload_n 0, 1) := by decide +kernel
theorem dab_1 : decode jdk_39_method_1_code 1 = .ok (.invokespecial 1, 3) := by decide +kernel
theorem dab_4 : decode jdk_39_method_1_code 4 = .ok (.aload_n 0, 1) := by decide +kernel
theorem dab_5 : decode jdk_39_method_1_code 5 = .ok (.iconst 0, 1) := by decide +kernel
theorem dab_6 : decode jdk_39_method_1_code 6 = .ok (.putfield 7, 3) := by decide +kernel
theorem dab_9 : decode jdk_39_method_1_code 9 = .ok (.return_, 1) := by decide +kernel
theorem pdab_0 : parseMethodDescriptor "()V" = some ⟨[], none⟩ := by decide +kernel
theorem pfab : plainFor (⟨"java/util/AbstractList", "<init>", "()V"⟩ : MethodName) = true := by decide +kernel
set_option maxHeartbeats 4000000 in
theorem efab (m : MethodId) (a : Addr) : entryFrame m #[(.ref a)] 1 = (mkF m 0 #[.val (.ref a)] []) := by first | (simp [entryFrame, mkF, argsToLocals, Value.category, maxLocals]; done) | rfl
def Qab (Z : State) (a : Addr) (h0 : Heap) (n0 : Nat) (v : Option Value) (h : Heap) (L : List Loc) : Prop := v = none ∧ Fr n0 L ∧ Keep h0 h [a] ∧ Exa Z h a "java/util/ArrayList" ∧ Fld Z h a "java/util/AbstractList" "modCount" "I" (.int (0 : Int32)) ∧ Fld Z h a "java/util/ArrayList" "elementData" "[Ljava/lang/Object;" (.null) ∧ Fld Z h a "java/util/ArrayList" "size" "I" (.int (0 : Int32))
set_option maxRecDepth 65536 in
set_option maxHeartbeats 40000000 in
theorem rmab (l : Launch) (Z : State) (a0 : Array Value) (hw : ∀ d ∈ tables_1, d.before a0 Z = true) (ws : List Jvm.Cond) (a : Addr) (h0 : Heap) (n0 : Nat) (Z0 : n0 ≤ h0.size) (E_a : Exa Z h0 a "java/util/ArrayList") (F_modCount_a : Fld Z h0 a "java/util/AbstractList" "modCount" "I" (.int (0 : Int32))) (F_elementData_a : Fld Z h0 a "java/util/ArrayList" "elementData" "[Ljava/lang/Object;" (.null)) (F_size_a : Fld Z h0 a "java/util/ArrayList" "size" "I" (.int (0 : Int32))) (g_a : n0 ≤ a) :
    MetFree l (⟨"java/util/AbstractList", "<init>", "()V"⟩ : MethodName) (head1 (Jvm.Cond.code (⟨"java/util/AbstractList", "<init>", "()V"⟩ : MethodName) jdk_39_method_1_code 1 none :: ws) ({ frames := 2, cells := 0, slots := 0, locals := 24 } : Room)) (fun aa U => aa = #[(.ref a)] ∧ Z.Warmed39 U.vm ∧ U.heap = h0) (fun _ _ _ _ _ => True) (fun _ U o U' => ∃ v L, o = .returned v ∧ Qab Z a h0 n0 v U'.heap L ∧ FrameEnd U o U' L ({ frames := 2, cells := 0, slots := 0, locals := 24 } : Room).cells ({ frames := 2, cells := 0, slots := 0, locals := 24 } : Room).slots) := by
  refine own_met pfab ?_
  intro p e s m below meth c T0 hx hby hml hown hret hlk hnm hZ X0 e0
  have N0 := Fr.nil n0
  have K0 := Keep.refl h0 [a]
  rw [efab]
  refine own_go (mkF m 1 #[.val (.ref a)] [(.ref a)]) (fun t k => XS.aloadN X0.here hx rfl (hb hby dab_0) rfl rfl k) ?_
  refine own_callI X0 hx hZ (y := (⟨"java/util/AbstractCollection", "<init>", "()V"⟩ : MethodName)) hown rfl (hw _ (List.mem_of_getElem? (i := 40) rfl)) (hw _ (List.mem_of_getElem? (i := 41) rfl)) (hw _ (List.mem_of_getElem? (i := 44) rfl)) (hw _ (List.mem_of_getElem? (i := 45) rfl)) (by decide) e0 (rmac l Z a0 hw [] a h0 n0 Z0) 0 (by decide) (by decide) (by decide) (by decide) (g := (mkF m 1 #[.val (.ref a)] [(.ref a)])) rfl (by rw [hml]; rfl) a [] [] (lenOf pdab_0 rfl) rfl rfl (by show 2 * 0 + _ ≤ _; exact Nat.le_of_eq rfl) (hb hby dab_1) ?_
  intro rv1 T1 h1 L1 X1 e1 hQ1
  obtain ⟨rfl, NQ1, eq1⟩ := hQ1
  rw [eq1] at e1
  have N1 := Fr.app N0 NQ1
  show own_Ends p e below s ({ frames := 2, cells := 0, slots := 0, locals := 24 } : Room).cells ({ frames := 2, cells := 0, slots := 0, locals := 24 } : Room).slots (Qab Z a h0 n0) T1 (mkF m 4 #[.val (.ref a)] [])
  refine own_go (mkF m 5 #[.val (.ref a)] [(.ref a)]) (fun t k => XS.aloadN X1.here hx rfl (hb hby dab_4) rfl rfl k) ?_
  refine own_go (mkF m 6 #[.val (.ref a)] [(.int (0 : Int32)), (.ref a)]) (fun t k => XS.iconst X1.here hx rfl (hb hby dab_5) k) ?_
  obtain ⟨T6, h6, X6, e6, W6, st6⟩ := putF X1 hx hZ hown (host := "") (Or.inl (hw _ (List.mem_of_getElem? (i := 47) rfl))) Via.refl e1 F_modCount_a E_a (Or.inl (hw _ (List.mem_of_getElem? (i := 48) rfl))) (hw _ (List.mem_of_getElem? (i := 29) rfl)) (ty := .int) (by decide) rfl rfl (g := (mkF m 6 #[.val (.ref a)] [(.int (0 : Int32)), (.ref a)])) rfl rfl (hb hby dab_6)
  have N6 := Fr.snoc X6 N1 g_a
  have E_a_6 := E_a.wr W6
  have F_modCount_a_6 := F_modCount_a.same W6
  have F_elementData_a_6 := F_elementData_a.other W6 (Or.inr (slot_ne (Or.inl (hw _ (List.mem_of_getElem? (i := 51) rfl))) (Or.inl (hw _ (List.mem_of_getElem? (i := 48) rfl))) (by decide) (t := (.array (.object "java/lang/Object"))) (t' := .int) (by decide) (by decide)))
  have F_size_a_6 := F_size_a.other W6 (Or.inr (slot_ne (Or.inl (hw _ (List.mem_of_getElem? (i := 75) rfl))) (Or.inl (hw _ (List.mem_of_getElem? (i := 48) rfl))) (by decide) (t := .int) (t' := .int) (by decide) (by decide)))
  have K0_6 := K0.wr W6 (Or.inl (List.mem_cons_self ..))
  have Z0_6 : n0 ≤ h6.size := by rw [W6.size]; exact Z0
  refine own_go (T' := T6) (mkF m 9 #[.val (.ref a)] []) st6 ?_
  refine own_ret0 X6 hx hlk hret (hb hby dab_9) (by decide) (by decide) ?_
  rw [e6]
  exact ⟨rfl, N6, K0_6, E_a_6, F_modCount_a_6, F_elementData_a_6, F_size_a_6⟩
theorem dal_0 : decode jdk_38_method_2_code 0 = .ok (.aload_n 0, 1) := by decide +kernel
theorem dal_1 : decode jdk_38_method_2_code 1 = .ok (.invokespecial 1, 3) := by decide +kernel
theorem dal_4 : decode jdk_38_method_2_code 4 = .ok (.aload_n 0, 1) := by decide +kernel
theorem dal_5 : decode jdk_38_method_2_code 5 = .ok (.getstatic 39, 3) := by decide +kernel
theorem dal_8 : decode jdk_38_method_2_code 8 = .ok (.putfield 9, 3) := by decide +kernel
theorem dal_11 : decode jdk_38_method_2_code 11 = .ok (.return_, 1) := by decide +kernel
theorem pdal_0 : parseMethodDescriptor "()V" = some ⟨[], none⟩ := by decide +kernel
theorem pfal : plainFor (⟨"java/util/ArrayList", "<init>", "()V"⟩ : MethodName) = true := by decide +kernel
set_option maxHeartbeats 4000000 in
theorem efal (m : MethodId) (a : Addr) : entryFrame m #[(.ref a)] 1 = (mkF m 0 #[.val (.ref a)] []) := by first | (simp [entryFrame, mkF, argsToLocals, Value.category, maxLocals]; done) | rfl
def Qal (Z : State) (a : Addr) (dv : Addr) (h0 : Heap) (n0 : Nat) (v : Option Value) (h : Heap) (L : List Loc) : Prop := v = none ∧ Fr n0 L ∧ Keep h0 h [a] ∧ Exa Z h a "java/util/ArrayList" ∧ Fld Z h a "java/util/AbstractList" "modCount" "I" (.int (0 : Int32)) ∧ Fld Z h a "java/util/ArrayList" "elementData" "[Ljava/lang/Object;" (.ref dv) ∧ Fld Z h a "java/util/ArrayList" "size" "I" (.int (0 : Int32))
set_option maxRecDepth 65536 in
set_option maxHeartbeats 40000000 in
theorem rmal (l : Launch) (Z : State) (a0 : Array Value) (hw : ∀ d ∈ tables_1, d.before a0 Z = true) (ws : List Jvm.Cond) (a : Addr) (dv : Addr) (h0 : Heap) (n0 : Nat) (Z0 : n0 ≤ h0.size) (E_a : Exa Z h0 a "java/util/ArrayList") (F_modCount_a : Fld Z h0 a "java/util/AbstractList" "modCount" "I" (.int (0 : Int32))) (F_elementData_a : Fld Z h0 a "java/util/ArrayList" "elementData" "[Ljava/lang/Object;" (.null)) (F_size_a : Fld Z h0 a "java/util/ArrayList" "size" "I" (.int (0 : Int32))) (g_a : n0 ≤ a) (hO : Old Z n0 h0) (S_d : Sta Z Z.heap "java/util/ArrayList" "DEFAULTCAPACITY_EMPTY_ELEMENTDATA" "[Ljava/lang/Object;" (.ref dv)) (A_d : own_Ae Z Z.heap dv) :
    MetFree l (⟨"java/util/ArrayList", "<init>", "()V"⟩ : MethodName) (head1 (Jvm.Cond.code (⟨"java/util/ArrayList", "<init>", "()V"⟩ : MethodName) jdk_38_method_2_code 1 none :: ws) ({ frames := 3, cells := 0, slots := 0, locals := 36 } : Room)) (fun aa U => aa = #[(.ref a)] ∧ Z.Warmed39 U.vm ∧ U.heap = h0) (fun _ _ _ _ _ => True) (fun _ U o U' => ∃ v L, o = .returned v ∧ Qal Z a dv h0 n0 v U'.heap L ∧ FrameEnd U o U' L ({ frames := 3, cells := 0, slots := 0, locals := 36 } : Room).cells ({ frames := 3, cells := 0, slots := 0, locals := 36 } : Room).slots) := by
  refine own_met pfal ?_
  intro p e s m below meth c T0 hx hby hml hown hret hlk hnm hZ X0 e0
  have N0 := Fr.nil n0
  have K0 := Keep.refl h0 [a]
  rw [efal]
  refine own_go (mkF m 1 #[.val (.ref a)] [(.ref a)]) (fun t k => XS.aloadN X0.here hx rfl (hb hby dal_0) rfl rfl k) ?_
  refine own_callI X0 hx hZ (y := (⟨"java/util/AbstractList", "<init>", "()V"⟩ : MethodName)) hown rfl (hw _ (List.mem_of_getElem? (i := 34) rfl)) (hw _ (List.mem_of_getElem? (i := 35) rfl)) (hw _ (List.mem_of_getElem? (i := 38) rfl)) (hw _ (List.mem_of_getElem? (i := 39) rfl)) (by decide) e0 (rmab l Z a0 hw [] a h0 n0 Z0 E_a F_modCount_a F_elementData_a F_size_a g_a ) 0 (by decide) (by decide) (by decide) (by decide) (g := (mkF m 1 #[.val (.ref a)] [(.ref a)])) rfl (by rw [hml]; rfl) a [] [] (lenOf pdal_0 rfl) rfl rfl (by show 2 * 0 + _ ≤ _; exact Nat.le_of_eq rfl) (hb hby dal_1) ?_
  intro rv1 T1 h1 L1 X1 e1 hQ1
  obtain ⟨rfl, NQ1, KQ1, EQ1, Fm1, Fe1, Fz1⟩ := hQ1
  have E_a_1 := E_a.keep KQ1
  have K0_1 := K0.trans KQ1 (allS (Or.inl (List.mem_cons_self ..)) all0)
  have hO_1 := hO.keep KQ1 (allS g_a all0)
  have Z0_1 : n0 ≤ h1.size := Nat.le_trans Z0 KQ1.1
  have N1 := Fr.app N0 NQ1
  show own_Ends p e below s ({ frames := 3, cells := 0, slots := 0, locals := 36 } : Room).cells ({ frames := 3, cells := 0, slots := 0, locals := 36 } : Room).slots (Qal Z a dv h0 n0) T1 (mkF m 4 #[.val (.ref a)] [])
  refine own_go (mkF m 5 #[.val (.ref a)] [(.ref a)]) (fun t k => XS.aloadN X1.here hx rfl (hb hby dal_4) rfl rfl k) ?_
  obtain ⟨T5, X5, e5, st5⟩ := getS X1 hx hZ hown (host := "") (hw _ (List.mem_of_getElem? (i := 49) rfl)) Via.refl e1 (S_d.ext hO_1.2) (g := (mkF m 5 #[.val (.ref a)] [(.ref a)])) rfl (hb hby dal_5)
  refine own_go (T' := T5) (mkF m 8 #[.val (.ref a)] [(.ref dv), (.ref a)]) st5 ?_
  obtain ⟨T8, h8, X8, e8, W8, st8⟩ := putF X5 hx hZ hown (host := "") (Or.inl (hw _ (List.mem_of_getElem? (i := 50) rfl))) Via.refl e5 Fe1 EQ1 (Or.inl (hw _ (List.mem_of_getElem? (i := 51) rfl))) (hw _ (List.mem_of_getElem? (i := 29) rfl)) (ty := (.array (.object "java/lang/Object"))) (by decide) rfl rfl (g := (mkF m 8 #[.val (.ref a)] [(.ref dv), (.ref a)])) rfl rfl (hb hby dal_8)
  have N8 := Fr.snoc X8 N1 g_a
  have EQ1_8 := EQ1.wr W8
  have K0_8 := K0_1.wr W8 (Or.inl (List.mem_cons_self ..))
  have hO_8 := hO_1.wr W8 g_a
  have Z0_8 : n0 ≤ h8.size := by rw [W8.size]; exact Z0_1
  have Fm1_8 := Fm1.other W8 (Or.inr (slot_ne (Or.inl (hw _ (List.mem_of_getElem? (i := 48) rfl))) (Or.inl (hw _ (List.mem_of_getElem? (i := 51) rfl))) (by decide) (t := .int) (t' := (.array (.object "java/lang/Object"))) (by decide) (by decide)))
  have Fe1_8 := Fe1.same W8
  have Fz1_8 := Fz1.other W8 (Or.inr (slot_ne (Or.inl (hw _ (List.mem_of_getElem? (i := 75) rfl))) (Or.inl (hw _ (List.mem_of_getElem? (i := 51) rfl))) (by decide) (t := .int) (t' := (.array (.object "java/lang/Object"))) (by decide) (by decide)))
  refine own_go (T' := T8) (mkF m 11 #[.val (.ref a)] []) st8 ?_
  refine own_ret0 X8 hx hlk hret (hb hby dal_11) (by decide) (by decide) ?_
  rw [e8]
  exact ⟨rfl, N8, K0_8, EQ1_8, Fm1_8, Fe1_8, Fz1_8⟩
theorem dmx_0 : decode jdk_29_method_65_code 0 = .ok (.iload_n 0, 1) := by decide +kernel
theorem dmx_1 : decode jdk_29_method_65_code 1 = .ok (.iload_n 1, 1) := by decide +kernel
theorem dmx_2 : decode jdk_29_method_65_code 2 = .ok (.if_icmp .lt 7, 3) := by decide +kernel
theorem dmx_5 : decode jdk_29_method_65_code 5 = .ok (.iload_n 0, 1) := by decide +kernel
theorem dmx_6 : decode jdk_29_method_65_code 6 = .ok (.goto 4, 3) := by decide +kernel
theorem dmx_9 : decode jdk_29_method_65_code 9 = .ok (.iload_n 1, 1) := by decide +kernel
theorem dmx_10 : decode jdk_29_method_65_code 10 = .ok (.ireturn, 1) := by decide +kernel
theorem pfmx : plainFor (⟨"java/lang/Math", "max", "(II)I"⟩ : MethodName) = true := by decide +kernel
set_option maxHeartbeats 4000000 in
theorem efmx (m : MethodId) (q1 : Int32) (q2 : Int32) : entryFrame m #[(.int q1), (.int q2)] 2 = (mkF m 0 #[.val (.int q1), .val (.int q2)] []) := by first | (simp [entryFrame, mkF, argsToLocals, Value.category, maxLocals]; done) | rfl
def Qmx (Z : State) (q1 : Int32) (q2 : Int32) (h0 : Heap) (n0 : Nat) (v : Option Value) (h : Heap) (L : List Loc) : Prop := (∃ r : Int32, v = some (.int r) ∧ (q1.toInt ≤ r.toInt ∧ q2.toInt ≤ r.toInt ∧ (r.toInt = q1.toInt ∨ r.toInt = q2.toInt))) ∧ Fr n0 L ∧ h = h0
set_option maxRecDepth 65536 in
set_option maxHeartbeats 40000000 in
theorem rmmx (l : Launch) (Z : State) (a0 : Array Value) (hw : ∀ d ∈ tables_1, d.before a0 Z = true) (ws : List Jvm.Cond) (q1 : Int32) (q2 : Int32) (h0 : Heap) (n0 : Nat) (Z0 : n0 ≤ h0.size) :
    MetFree l (⟨"java/lang/Math", "max", "(II)I"⟩ : MethodName) (head1 (Jvm.Cond.code (⟨"java/lang/Math", "max", "(II)I"⟩ : MethodName) jdk_29_method_65_code 2 (some Jvm.ClassFile.FieldType.int) :: ws) ({ frames := 0, cells := 0, slots := 0, locals := 0 } : Room)) (fun aa U => aa = #[(.int q1), (.int q2)] ∧ Z.Warmed39 U.vm ∧ U.heap = h0) (fun _ _ _ _ _ => True) (fun _ U o U' => ∃ v L, o = .returned v ∧ Qmx Z q1 q2 h0 n0 v U'.heap L ∧ FrameEnd U o U' L ({ frames := 0, cells := 0, slots := 0, locals := 0 } : Room).cells ({ frames := 0, cells := 0, slots := 0, locals := 0 } : Room).slots) := by
  refine own_met pfmx ?_
  intro p e s m below meth c T0 hx hby hml hown hret hlk hnm hZ X0 e0
  have N0 := Fr.nil n0
  have r_q1 := rng32 q1
  have r_q2 := rng32 q2
  rw [efmx]
  refine own_go (mkF m 1 #[.val (.int q1), .val (.int q2)] [(.int q1)]) (fun t k => XS.iloadN X0.here hx rfl (hb hby dmx_0) rfl k) ?_
  refine own_go (mkF m 2 #[.val (.int q1), .val (.int q2)] [(.int q2), (.int q1)]) (fun t k => XS.iloadN X0.here hx rfl (hb hby dmx_1) rfl k) ?_
  by_cases c2 : q1.toInt < q2.toInt
  · skip
    refine own_go (mkF m 9 #[.val (.int q1), .val (.int q2)] []) (fun t k => XS.icmpYes X0.here hx rfl (pc0 := 2) (pc' := 9) rfl (hb hby dmx_2) rfl (own_icT (cd := .lt) c2) (by decide) (by decide) k) ?_
    refine own_go (mkF m 10 #[.val (.int q1), .val (.int q2)] [(.int q2)]) (fun t k => XS.iloadN X0.here hx rfl (hb hby dmx_9) rfl k) ?_
    refine own_retI X0 hx hlk hret (by simp) rfl (hb hby dmx_10) (by decide) (by decide) ?_
    rw [e0]
    refine ⟨⟨_, rfl, ?_⟩, N0, rfl⟩
    omega
  · skip
    refine own_go (mkF m 5 #[.val (.int q1), .val (.int q2)] []) (fun t k => XS.icmpNo X0.here hx rfl (hb hby dmx_2) rfl (own_icF (cd := .lt) c2) k) ?_
    refine own_go (mkF m 6 #[.val (.int q1), .val (.int q2)] [(.int q1)]) (fun t k => XS.iloadN X0.here hx rfl (hb hby dmx_5) rfl k) ?_
    refine own_go (mkF m 10 #[.val (.int q1), .val (.int q2)] [(.int q1)]) (fun t k => XS.goto X0.here hx rfl (pc0 := 6) (pc' := 10) rfl (hb hby dmx_6) (by decide) (by decide) k) ?_
    refine own_retI X0 hx hlk hret (by simp) rfl (hb hby dmx_10) (by decide) (by decide) ?_
    rw [e0]
    refine ⟨⟨_, rfl, ?_⟩, N0, rfl⟩
    omega
theorem dmn_0 : decode jdk_29_method_69_code 0 = .ok (.iload_n 0, 1) := by decide +kernel
theorem dmn_1 : decode jdk_29_method_69_code 1 = .ok (.iload_n 1, 1) := by decide +kernel
theorem dmn_2 : decode jdk_29_method_69_code 2 = .ok (.if_icmp .gt 7, 3) := by decide +kernel
theorem dmn_5 : decode jdk_29_method_69_code 5 = .ok (.iload_n 0, 1) := by decide +kernel
theorem dmn_6 : decode jdk_29_method_69_code 6 = .ok (.goto 4, 3) := by decide +kernel
theorem dmn_9 : decode jdk_29_method_69_code 9 = .ok (.iload_n 1, 1) := by decide +kernel
theorem dmn_10 : decode jdk_29_method_69_code 10 = .ok (.ireturn, 1) := by decide +kernel
theorem pfmn : plainFor (⟨"java/lang/Math", "min", "(II)I"⟩ : MethodName) = true := by decide +kernel
set_option maxHeartbeats 4000000 in
theorem efmn (m : MethodId) (q1 : Int32) (q2 : Int32) : entryFrame m #[(.int q1), (.int q2)] 2 = (mkF m 0 #[.val (.int q1), .val (.int q2)] []) := by first | (simp [entryFrame, mkF, argsToLocals, Value.category, maxLocals]; done) | rfl
def Qmn (Z : State) (q1 : Int32) (q2 : Int32) (h0 : Heap) (n0 : Nat) (v : Option Value) (h : Heap) (L : List Loc) : Prop := (∃ r : Int32, v = some (.int r) ∧ (r.toInt ≤ q1.toInt ∧ r.toInt ≤ q2.toInt ∧ (r.toInt = q1.toInt ∨ r.toInt = q2.toInt))) ∧ Fr n0 L ∧ h = h0
set_option maxRecDepth 65536 in
set_option maxHeartbeats 40000000 in
theorem rmmn (l : Launch) (Z : State) (a0 : Array Value) (hw : ∀ d ∈ tables_1, d.before a0 Z = true) (ws : List Jvm.Cond) (q1 : Int32) (q2 : Int32) (h0 : Heap) (n0 : Nat) (Z0 : n0 ≤ h0.size) :
    MetFree l (⟨"java/lang/Math", "min", "(II)I"⟩ : MethodName) (head1 (Jvm.Cond.code (⟨"java/lang/Math", "min", "(II)I"⟩ : MethodName) jdk_29_method_69_code 2 (some Jvm.ClassFile.FieldType.int) :: ws) ({ frames := 0, cells := 0, slots := 0, locals := 0 } : Room)) (fun aa U => aa = #[(.int q1), (.int q2)] ∧ Z.Warmed39 U.vm ∧ U.heap = h0) (fun _ _ _ _ _ => True) (fun _ U o U' => ∃ v L, o = .returned v ∧ Qmn Z q1 q2 h0 n0 v U'.heap L ∧ FrameEnd U o U' L ({ frames := 0, cells := 0, slots := 0, locals := 0 } : Room).cells ({ frames := 0, cells := 0, slots := 0, locals := 0 } : Room).slots) := by
  refine own_met pfmn ?_
  intro p e s m below meth c T0 hx hby hml hown hret hlk hnm hZ X0 e0
  have N0 := Fr.nil n0
  have r_q1 := rng32 q1
  have r_q2 := rng32 q2
  rw [efmn]
  refine own_go (mkF m 1 #[.val (.int q1), .val (.int q2)] [(.int q1)]) (fun t k => XS.iloadN X0.here hx rfl (hb hby dmn_0) rfl k) ?_
  refine own_go (mkF m 2 #[.val (.int q1), .val (.int q2)] [(.int q2), (.int q1)]) (fun t k => XS.iloadN X0.here hx rfl (hb hby dmn_1) rfl k) ?_
  by_cases c2 : q2.toInt < q1.toInt
  · skip
    refine own_go (mkF m 9 #[.val (.int q1), .val (.int q2)] []) (fun t k => XS.icmpYes X0.here hx rfl (pc0 := 2) (pc' := 9) rfl (hb hby dmn_2) rfl (own_icT (cd := .gt) c2) (by decide) (by decide) k) ?_
    refine own_go (mkF m 10 #[.val (.int q1), .val (.int q2)] [(.int q2)]) (fun t k => XS.iloadN X0.here hx rfl (hb hby dmn_9) rfl k) ?_
    refine own_retI X0 hx hlk hret (by simp) rfl (hb hby dmn_10) (by decide) (by decide) ?_
    rw [e0]
    refine ⟨⟨_, rfl, ?_⟩, N0, rfl⟩
    omega
  · skip
    refine own_go (mkF m 5 #[.val (.int q1), .val (.int q2)] []) (fun t k => XS.icmpNo X0.here hx rfl (hb hby dmn_2) rfl (own_icF (cd := .gt) c2) k) ?_
    refine own_go (mkF m 6 #[.val (.int q1), .val (.int q2)] [(.int q1)]) (fun t k => XS.iloadN X0.here hx rfl (hb hby dmn_5) rfl k) ?_
    refine own_go (mkF m 10 #[.val (.int q1), .val (.int q2)] [(.int q1)]) (fun t k => XS.goto X0.here hx rfl (pc0 := 6) (pc' := 10) rfl (hb hby dmn_6) (by decide) (by decide) k) ?_
    refine own_retI X0 hx hlk hret (by simp) rfl (hb hby dmn_10) (by decide) (by decide) ?_
    rw [e0]
    refine ⟨⟨_, rfl, ?_⟩, N0, rfl⟩
    omega
theorem dg2_0 : decode jdk_38_method_6_code 0 = .ok (.aload_n 0, 1) := by decide +kernel
theorem dg2_1 : decode jdk_38_method_6_code 1 = .ok (.getfield 9, 3) := by decide +kernel
theorem dg2_4 : decode jdk_38_method_6_code 4 = .ok (.arraylength, 1) := by decide +kernel
theorem dg2_5 : decode jdk_38_method_6_code 5 = .ok (.istore_n 2, 1) := by decide +kernel
theorem dg2_6 : decode jdk_38_method_6_code 6 = .ok (.iload_n 2, 1) := by decide +kernel
theorem dg2_7 : decode jdk_38_method_6_code 7 = .ok (.ifCond .gt 13, 3) := by decide +kernel
theorem dg2_10 : decode jdk_38_method_6_code 10 = .ok (.aload_n 0, 1) := by decide +kernel
theorem dg2_11 : decode jdk_38_method_6_code 11 = .ok (.getfield 9, 3) := by decide +kernel
theorem dg2_14 : decode jdk_38_method_6_code 14 = .ok (.getstatic 39, 3) := by decide +kernel
theorem dg2_17 : decode jdk_38_method_6_code 17 = .ok (.if_acmp .eq 28, 3) := by decide +kernel
theorem dg2_45 : decode jdk_38_method_6_code 45 = .ok (.aload_n 0, 1) := by decide +kernel
theorem dg2_46 : decode jdk_38_method_6_code 46 = .ok (.bipush 10, 2) := by decide +kernel
theorem dg2_48 : decode jdk_38_method_6_code 48 = .ok (.iload_n 1, 1) := by decide +kernel
theorem dg2_49 : decode jdk_38_method_6_code 49 = .ok (.invokestatic 79, 3) := by decide +kernel
theorem dg2_52 : decode jdk_38_method_6_code 52 = .ok (.anewarray 7, 3) := by decide +kernel
theorem dg2_55 : decode jdk_38_method_6_code 55 = .ok (.dup_x1, 1) := by decide +kernel
theorem dg2_56 : decode jdk_38_method_6_code 56 = .ok (.putfield 9, 3) := by decide +kernel
theorem dg2_59 : decode jdk_38_method_6_code 59 = .ok (.areturn, 1) := by decide +kernel
theorem pdg2_0 : parseMethodDescriptor "(II)I" = some ⟨[.int, .int], some .int⟩ := by decide +kernel
theorem pfg2 : plainFor (⟨"java/util/ArrayList", "grow", "(I)[Ljava/lang/Object;"⟩ : MethodName) = true := by decide +kernel
set_option maxHeartbeats 4000000 in
theorem efg2 (m : MethodId) (a : Addr) (q1 : Int32) : entryFrame m #[(.ref a), (.int q1)] 4 = (mkF m 0 #[.val (.ref a), .val (.int q1), .unset, .unset] []) := by first | (simp [entryFrame, mkF, argsToLocals, Value.category, maxLocals]; done) | rfl
def Qg2 (Z : State) (a : Addr) (q1 : Int32) (dv : Addr) (w1 : Int32) (w2 : Int32) (h0 : Heap) (n0 : Nat) (v : Option Value) (h : Heap) (L : List Loc) : Prop := ∃ (b : Addr) (n : Nat), v = some (.ref b) ∧ Fr n0 L ∧ Keep h0 h [a] ∧ Exa Z h a "java/util/ArrayList" ∧ Fld Z h a "java/util/AbstractList" "modCount" "I" (.int w1) ∧ Fld Z h a "java/util/ArrayList" "elementData" "[Ljava/lang/Object;" (.ref b) ∧ Fld Z h a "java/util/ArrayList" "size" "I" (.int w2) ∧ own_Ao Z h b n ∧ n0 ≤ b ∧ 1 ≤ n ∧ h0.size ≤ b
set_option maxRecDepth 65536 in
set_option maxHeartbeats 40000000 in
theorem rmg2 (l : Launch) (Z : State) (a0 : Array Value) (hw : ∀ d ∈ tables_1, d.before a0 Z = true) (ws : List Jvm.Cond) (a : Addr) (q1 : Int32) (dv : Addr) (w1 : Int32) (w2 : Int32) (h0 : Heap) (n0 : Nat) (Z0 : n0 ≤ h0.size) (E_a : Exa Z h0 a "java/util/ArrayList") (F_modCount_a : Fld Z h0 a "java/util/AbstractList" "modCount" "I" (.int w1)) (F_elementData_a : Fld Z h0 a "java/util/ArrayList" "elementData" "[Ljava/lang/Object;" (.ref dv)) (F_size_a : Fld Z h0 a "java/util/ArrayList" "size" "I" (.int w2)) (g_a : n0 ≤ a) (hO : Old Z n0 h0) (S_d : Sta Z Z.heap "java/util/ArrayList" "DEFAULTCAPACITY_EMPTY_ELEMENTDATA" "[Ljava/lang/Object;" (.ref dv)) (A_d : own_Ae Z Z.heap dv) (hp : q1.toInt = 1) :
    MetFree l (⟨"java/util/ArrayList", "grow", "(I)[Ljava/lang/Object;"⟩ : MethodName) (head1 (Jvm.Cond.code (⟨"java/util/ArrayList", "grow", "(I)[Ljava/lang/Object;"⟩ : MethodName) jdk_38_method_6_code 4 (some (Jvm.ClassFile.FieldType.array (Jvm.ClassFile.FieldType.object "java/lang/Object"))) :: ws) ({ frames := 1, cells := 1, slots := 10, locals := 20 } : Room)) (fun aa U => aa = #[(.ref a), (.int q1)] ∧ Z.Warmed39 U.vm ∧ U.heap = h0) (fun _ _ _ _ _ => True) (fun _ U o U' => ∃ v L, o = .returned v ∧ Qg2 Z a q1 dv w1 w2 h0 n0 v U'.heap L ∧ FrameEnd U o U' L ({ frames := 1, cells := 1, slots := 10, locals := 20 } : Room).cells ({ frames := 1, cells := 1, slots := 10, locals := 20 } : Room).slots) := by
  refine own_met pfg2 ?_
  intro p e s m below meth c T0 hx hby hml hown hret hlk hnm hZ X0 e0
  have N0 := Fr.nil n0
  have K0 := Keep.refl h0 [a]
  have r_q1 := rng32 q1
  rw [efg2]
  refine own_go (mkF m 1 #[.val (.ref a), .val (.int q1), .unset, .unset] [(.ref a)]) (fun t k => XS.aloadN X0.here hx rfl (hb hby dg2_0) rfl rfl k) ?_
  obtain ⟨T1, X1, e1, st1⟩ := getF X0 hx hZ hown (host := "") (Or.inl (hw _ (List.mem_of_getElem? (i := 50) rfl))) Via.refl e0 F_elementData_a (g := (mkF m 1 #[.val (.ref a), .val (.int q1), .unset, .unset] [(.ref a)])) rfl rfl (hb hby dg2_1)
  refine own_go (T' := T1) (mkF m 4 #[.val (.ref a), .val (.int q1), .unset, .unset] [(.ref dv)]) st1 ?_
  refine own_alen0 X1 hx hZ e1 (A_d.ext hO.2) (g := (mkF m 4 #[.val (.ref a), .val (.int q1), .unset, .unset] [(.ref dv)])) rfl rfl (hb hby dg2_4) ?_
  show own_Ends p e below s ({ frames := 1, cells := 1, slots := 10, locals := 20 } : Room).cells ({ frames := 1, cells := 1, slots := 10, locals := 20 } : Room).slots (Qg2 Z a q1 dv w1 w2 h0 n0) T1 (mkF m 5 #[.val (.ref a), .val (.int q1), .unset, .unset] [(.int (0 : Int32))])
  refine own_go (mkF m 6 #[.val (.ref a), .val (.int q1), .val (.int (0 : Int32)), .unset] []) (fun t k => XS.istoreN X1.here hx rfl (hb hby dg2_5) rfl (l' := #[.val (.ref a), .val (.int q1), .val (.int (0 : Int32)), .unset]) rfl k) ?_
  refine own_go (mkF m 7 #[.val (.ref a), .val (.int q1), .val (.int (0 : Int32)), .unset] [(.int (0 : Int32))]) (fun t k => XS.iloadN X1.here hx rfl (hb hby dg2_6) rfl k) ?_
  refine own_go (mkF m 10 #[.val (.ref a), .val (.int q1), .val (.int (0 : Int32)), .unset] []) (fun t k => XS.ifNo X1.here hx rfl (hb hby dg2_7) rfl (by decide) k) ?_
  refine own_go (mkF m 11 #[.val (.ref a), .val (.int q1), .val (.int (0 : Int32)), .unset] [(.ref a)]) (fun t k => XS.aloadN X1.here hx rfl (hb hby dg2_10) rfl rfl k) ?_
  obtain ⟨T11, X11, e11, st11⟩ := getF X1 hx hZ hown (host := "") (Or.inl (hw _ (List.mem_of_getElem? (i := 50) rfl))) Via.refl e1 F_elementData_a (g := (mkF m 11 #[.val (.ref a), .val (.int q1), .val (.int (0 : Int32)), .unset] [(.ref a)])) rfl rfl (hb hby dg2_11)
  refine own_go (T' := T11) (mkF m 14 #[.val (.ref a), .val (.int q1), .val (.int (0 : Int32)), .unset] [(.ref dv)]) st11 ?_
  obtain ⟨T14, X14, e14, st14⟩ := getS X11 hx hZ hown (host := "") (hw _ (List.mem_of_getElem? (i := 49) rfl)) Via.refl e11 (S_d.ext hO.2) (g := (mkF m 14 #[.val (.ref a), .val (.int q1), .val (.int (0 : Int32)), .unset] [(.ref dv)])) rfl (hb hby dg2_14)
  refine own_go (T' := T14) (mkF m 17 #[.val (.ref a), .val (.int q1), .val (.int (0 : Int32)), .unset] [(.ref dv), (.ref dv)]) st14 ?_
  refine own_go (mkF m 45 #[.val (.ref a), .val (.int q1), .val (.int (0 : Int32)), .unset] []) (fun t k => Jvm.RoadKit.acmp (g := (mkF m 17 #[.val (.ref a), .val (.int q1), .val (.int (0 : Int32)), .unset] [(.ref dv), (.ref dv)])) X14 hx rfl rfl rfl (pc0 := 17) (pc' := 45) (same := true) rfl (hb hby dg2_17) rfl (decide_eq_true rfl) (by decide) (by decide) k) ?_
  refine own_go (mkF m 46 #[.val (.ref a), .val (.int q1), .val (.int (0 : Int32)), .unset] [(.ref a)]) (fun t k => XS.aloadN X14.here hx rfl (hb hby dg2_45) rfl rfl k) ?_
  refine own_go (mkF m 48 #[.val (.ref a), .val (.int q1), .val (.int (0 : Int32)), .unset] [(.int (10 : Int32)), (.ref a)]) (fun t k => XS.bipush X14.here hx rfl (hb hby dg2_46) k) ?_
  refine own_go (mkF m 49 #[.val (.ref a), .val (.int q1), .val (.int (0 : Int32)), .unset] [(.int q1), (.int (10 : Int32)), (.ref a)]) (fun t k => XS.iloadN X14.here hx rfl (hb hby dg2_48) rfl k) ?_
  have lt49_0 : (10 : Int32).toInt = 10 := rfl
  refine own_callS X14 hx hZ (y := (⟨"java/lang/Math", "max", "(II)I"⟩ : MethodName)) hown (hw _ (List.mem_of_getElem? (i := 91) rfl)) (hw _ (List.mem_of_getElem? (i := 92) rfl)) (hw _ (List.mem_of_getElem? (i := 58) rfl)) (hw _ (List.mem_of_getElem? (i := 93) rfl)) (by decide) e14 (rmmx l Z a0 hw [] (10 : Int32) q1 h0 n0 Z0 ) 1 (by decide) (by decide) (by decide) (by decide) (g := (mkF m 49 #[.val (.ref a), .val (.int q1), .val (.int (0 : Int32)), .unset] [(.int q1), (.int (10 : Int32)), (.ref a)])) rfl (by rw [hml]; rfl) [(.int (10 : Int32)), (.int q1)] [(.ref a)] (lenOf pdg2_0 rfl) rfl rfl (by show 2 * 0 + _ ≤ _; exact Nat.le_of_eq rfl) (hb hby dg2_49) ?_
  intro rv49 T49 h49 L49 X49 e49 hQ49
  obtain ⟨⟨r49, rfl, hr49⟩, NQ49, eq49⟩ := hQ49
  rw [eq49] at e49
  have rr49 := rng32 r49
  have N49 := Fr.app N0 NQ49
  show own_Ends p e below s ({ frames := 1, cells := 1, slots := 10, locals := 20 } : Room).cells ({ frames := 1, cells := 1, slots := 10, locals := 20 } : Room).slots (Qg2 Z a q1 dv w1 w2 h0 n0) T49 (mkF m 52 #[.val (.ref a), .val (.int q1), .val (.int (0 : Int32)), .unset] [(.int r49), (.ref a)])
  refine own_newobjs X49 hx hZ hown (hw _ (List.mem_of_getElem? (i := 94) rfl)) (hw _ (List.mem_of_getElem? (i := 95) rfl)) e49 (g := (mkF m 52 #[.val (.ref a), .val (.int q1), .val (.int (0 : Int32)), .unset] [(.int r49), (.ref a)])) rfl (hb hby dg2_52) rfl (by omega) 10 (by omega) (by decide) (by decide) (by decide) ?_
  intro T52 h52 b52 X52 e52 E52 g52 A52
  have gb52 : n0 ≤ b52 := Nat.le_trans Z0 (Nat.le_of_eq g52.symm)
  have ne_a_b52 : a ≠ b52 := fun q => Nat.lt_irrefl h0.size (by have := E_a.lt; rw [q, g52] at this; exact this)
  have E_a_52 := E_a.ext E52
  have F_modCount_a_52 := F_modCount_a.ext E52
  have F_elementData_a_52 := F_elementData_a.ext E52
  have F_size_a_52 := F_size_a.ext E52
  have K0_52 := K0.ext E52
  have hO_52 := hO.ext E52
  have Z0_52 : n0 ≤ h52.size := Nat.le_trans Z0 E52.1
  have in52 : b52 ∈ [a] ∨ h0.size ≤ b52 := Or.inr (Nat.le_trans K0.1 (Nat.le_of_eq g52.symm))
  show own_Ends p e below s ({ frames := 1, cells := 1, slots := 10, locals := 20 } : Room).cells ({ frames := 1, cells := 1, slots := 10, locals := 20 } : Room).slots (Qg2 Z a q1 dv w1 w2 h0 n0) T52 (mkF m 55 #[.val (.ref a), .val (.int q1), .val (.int (0 : Int32)), .unset] [(.ref b52), (.ref a)])
  refine own_go (mkF m 56 #[.val (.ref a), .val (.int q1), .val (.int (0 : Int32)), .unset] [(.ref b52), (.ref a), (.ref b52)]) (fun t k => XS.dupX1 X52.here hx rfl (hb hby dg2_55) rfl rfl rfl k) ?_
  obtain ⟨T56, h56, X56, e56, W56, st56⟩ := putF X52 hx hZ hown (host := "") (Or.inl (hw _ (List.mem_of_getElem? (i := 50) rfl))) Via.refl e52 F_elementData_a_52 E_a_52 (Or.inl (hw _ (List.mem_of_getElem? (i := 51) rfl))) (hw _ (List.mem_of_getElem? (i := 29) rfl)) (ty := (.array (.object "java/lang/Object"))) (by decide) rfl rfl (g := (mkF m 56 #[.val (.ref a), .val (.int q1), .val (.int (0 : Int32)), .unset] [(.ref b52), (.ref a), (.ref b52)])) rfl rfl (hb hby dg2_56)
  have N56 := Fr.snoc X56 N49 g_a
  have E_a_56 := E_a_52.wr W56
  have F_modCount_a_56 := F_modCount_a_52.other W56 (Or.inr (slot_ne (Or.inl (hw _ (List.mem_of_getElem? (i := 48) rfl))) (Or.inl (hw _ (List.mem_of_getElem? (i := 51) rfl))) (by decide) (t := .int) (t' := (.array (.object "java/lang/Object"))) (by decide) (by decide)))
  have F_elementData_a_56 := F_elementData_a_52.same W56
  have F_size_a_56 := F_size_a_52.other W56 (Or.inr (slot_ne (Or.inl (hw _ (List.mem_of_getElem? (i := 75) rfl))) (Or.inl (hw _ (List.mem_of_getElem? (i := 51) rfl))) (by decide) (t := .int) (t' := (.array (.object "java/lang/Object"))) (by decide) (by decide)))
  have K0_56 := K0_52.wr W56 (Or.inl (List.mem_cons_self ..))
  have hO_56 := hO_52.wr W56 g_a
  have Z0_56 : n0 ≤ h56.size := by rw [W56.size]; exact Z0_52
  have A52_56 := A52.other W56 (Ne.symm ne_a_b52)
  refine own_go (T' := T56) (mkF m 59 #[.val (.ref a), .val (.int q1), .val (.int (0 : Int32)), .unset] [(.ref b52)]) st56 ?_
  refine own_retA X56 hx hlk hret rfl rfl (hb hby dg2_59) (by decide) (by decide) ?_
  rw [e56]
  exact ⟨_, _, rfl, N56, K0_56, E_a_56, F_modCount_a_56, F_elementData_a_56, F_size_a_56, A52_56, gb52, by omega, (by rw [g52]; exact Nat.le_refl _)⟩
theorem dg1_0 : decode jdk_38_method_7_code 0 = .ok (.aload_n 0, 1) := by decide +kernel
theorem dg1_1 : decode jdk_38_method_7_code 1 = .ok (.aload_n 0, 1) := by decide +kernel
theorem dg1_2 : decode jdk_38_method_7_code 2 = .ok (.getfield 48, 3) := by decide +kernel
theorem dg1_5 : decode jdk_38_method_7_code 5 = .ok (.iconst 1, 1) := by decide +kernel
theorem dg1_6 : decode jdk_38_method_7_code 6 = .ok (.iadd, 1) := by decide +kernel
theorem dg1_7 : decode jdk_38_method_7_code 7 = .ok (.invokevirtual 69, 3) := by decide +kernel
theorem dg1_10 : decode jdk_38_method_7_code 10 = .ok (.areturn, 1) := by decide +kernel
theorem pdg1_0 : parseMethodDescriptor "(I)[Ljava/lang/Object;" = some ⟨[.int], some (.array (.object "java/lang/Object"))⟩ := by decide +kernel
theorem pfg1 : plainFor (⟨"java/util/ArrayList", "grow", "()[Ljava/lang/Object;"⟩ : MethodName) = true := by decide +kernel
set_option maxHeartbeats 4000000 in
theorem efg1 (m : MethodId) (a : Addr) : entryFrame m #[(.ref a)] 1 = (mkF m 0 #[.val (.ref a)] []) := by first | (simp [entryFrame, mkF, argsToLocals, Value.category, maxLocals]; done) | rfl
def Qg1 (Z : State) (a : Addr) (dv : Addr) (w1 : Int32) (w2 : Int32) (h0 : Heap) (n0 : Nat) (v : Option Value) (h : Heap) (L : List Loc) : Prop := ∃ (b : Addr) (n : Nat), v = some (.ref b) ∧ Fr n0 L ∧ Keep h0 h [a] ∧ Exa Z h a "java/util/ArrayList" ∧ Fld Z h a "java/util/AbstractList" "modCount" "I" (.int w1) ∧ Fld Z h a "java/util/ArrayList" "elementData" "[Ljava/lang/Object;" (.ref b) ∧ Fld Z h a "java/util/ArrayList" "size" "I" (.int w2) ∧ own_Ao Z h b n ∧ n0 ≤ b ∧ 1 ≤ n ∧ h0.size ≤ b
set_option maxRecDepth 65536 in
set_option maxHeartbeats 40000000 in
theorem rmg1 (l : Launch) (Z : State) (a0 : Array Value) (hw : ∀ d ∈ tables_1, d.before a0 Z = true) (ws : List Jvm.Cond) (a : Addr) (dv : Addr) (w1 : Int32) (w2 : Int32) (h0 : Heap) (n0 : Nat) (Z0 : n0 ≤ h0.size) (E_a : Exa Z h0 a "java/util/ArrayList") (F_modCount_a : Fld Z h0 a "java/util/AbstractList" "modCount" "I" (.int w1)) (F_elementData_a : Fld Z h0 a "java/util/ArrayList" "elementData" "[Ljava/lang/Object;" (.ref dv)) (F_size_a : Fld Z h0 a "java/util/ArrayList" "size" "I" (.int w2)) (g_a : n0 ≤ a) (hO : Old Z n0 h0) (S_d : Sta Z Z.heap "java/util/ArrayList" "DEFAULTCAPACITY_EMPTY_ELEMENTDATA" "[Ljava/lang/Object;" (.ref dv)) (A_d : own_Ae Z Z.heap dv) (hp : w2.toInt = 0) :
    MetFree l (⟨"java/util/ArrayList", "grow", "()[Ljava/lang/Object;"⟩ : MethodName) (head1 (Jvm.Cond.code (⟨"java/util/ArrayList", "grow", "()[Ljava/lang/Object;"⟩ : MethodName) jdk_38_method_7_code 1 (some (Jvm.ClassFile.FieldType.array (Jvm.ClassFile.FieldType.object "java/lang/Object"))) :: ws) ({ frames := 2, cells := 1, slots := 10, locals := 36 } : Room)) (fun aa U => aa = #[(.ref a)] ∧ Z.Warmed39 U.vm ∧ U.heap = h0) (fun _ _ _ _ _ => True) (fun _ U o U' => ∃ v L, o = .returned v ∧ Qg1 Z a dv w1 w2 h0 n0 v U'.heap L ∧ FrameEnd U o U' L ({ frames := 2, cells := 1, slots := 10, locals := 36 } : Room).cells ({ frames := 2, cells := 1, slots := 10, locals := 36 } : Room).slots) := by
  refine own_met pfg1 ?_
  intro p e s m below meth c T0 hx hby hml hown hret hlk hnm hZ X0 e0
  have N0 := Fr.nil n0
  have K0 := Keep.refl h0 [a]
  have r_w2 := rng32 w2
  rw [efg1]
  refine own_go (mkF m 1 #[.val (.ref a)] [(.ref a)]) (fun t k => XS.aloadN X0.here hx rfl (hb hby dg1_0) rfl rfl k) ?_
  refine own_go (mkF m 2 #[.val (.ref a)] [(.ref a), (.ref a)]) (fun t k => XS.aloadN X0.here hx rfl (hb hby dg1_1) rfl rfl k) ?_
  obtain ⟨T2, X2, e2, st2⟩ := getF X0 hx hZ hown (host := "") (Or.inl (hw _ (List.mem_of_getElem? (i := 74) rfl))) Via.refl e0 F_size_a (g := (mkF m 2 #[.val (.ref a)] [(.ref a), (.ref a)])) rfl rfl (hb hby dg1_2)
  refine own_go (T' := T2) (mkF m 5 #[.val (.ref a)] [(.int w2), (.ref a)]) st2 ?_
  refine own_go (mkF m 6 #[.val (.ref a)] [(.int (1 : Int32)), (.int w2), (.ref a)]) (fun t k => XS.iconst X2.here hx rfl (hb hby dg1_5) k) ?_
  refine own_go (mkF m 7 #[.val (.ref a)] [(.int (w2 + (1 : Int32))), (.ref a)]) (fun t k => XS.iadd X2.here hx rfl (hb hby dg1_6) rfl k) ?_
  generalize hv6 : (w2 + (1 : Int32)) = v6
  have f6 : (v6.toInt - (w2.toInt + 1)) % 4294967296 = 0 := by rw [← hv6]; exact c_iadd w2 (1 : Int32)
  have r6 := rng32 v6
  refine own_callP X2 hx hZ (y := (⟨"java/util/ArrayList", "grow", "(I)[Ljava/lang/Object;"⟩ : MethodName)) hown (hw _ (List.mem_of_getElem? (i := 86) rfl)) (hw _ (List.mem_of_getElem? (i := 87) rfl)) (hw _ (List.mem_of_getElem? (i := 29) rfl)) (hw _ (List.mem_of_getElem? (i := 88) rfl)) (hw _ (List.mem_of_getElem? (i := 30) rfl)) (hw _ (List.mem_of_getElem? (i := 90) rfl)) (by decide) e2 a E_a (rmg2 l Z a0 hw [] a v6 dv w1 w2 h0 n0 Z0 E_a F_modCount_a F_elementData_a F_size_a g_a hO S_d A_d (by omega)) 0 (by decide) (by decide) (by decide) (by decide) (g := (mkF m 7 #[.val (.ref a)] [(.int v6), (.ref a)])) rfl (by rw [hml]; rfl) [(.int v6)] [] (lenOf pdg1_0 rfl) rfl rfl (by show 2 * 0 + _ ≤ _; exact Nat.le_of_eq rfl) (hb hby dg1_7) ?_
  intro rv7 T7 h7 L7 X7 e7 hQ7
  obtain ⟨bg7, nn7, rfl, NQ7, KQ7, EQ7, Fm7, Fe7, Fz7, AQ7, gQ7, hn7, ge7⟩ := hQ7
  have ne_a_bg7 : a ≠ bg7 := fun q => absurd E_a.lt (by rw [q]; exact Nat.not_lt.mpr ge7)
  have E_a_7 := E_a.keep KQ7
  have K0_7 := K0.trans KQ7 (allS (Or.inl (List.mem_cons_self ..)) all0)
  have hO_7 := hO.keep KQ7 (allS g_a all0)
  have Z0_7 : n0 ≤ h7.size := Nat.le_trans Z0 KQ7.1
  have in7 : bg7 ∈ [a] ∨ h0.size ≤ bg7 := Or.inr (Nat.le_trans K0.1 ge7)
  have N7 := Fr.app N0 NQ7
  show own_Ends p e below s ({ frames := 2, cells := 1, slots := 10, locals := 36 } : Room).cells ({ frames := 2, cells := 1, slots := 10, locals := 36 } : Room).slots (Qg1 Z a dv w1 w2 h0 n0) T7 (mkF m 10 #[.val (.ref a)] [(.ref bg7)])
  refine own_retA X7 hx hlk hret rfl rfl (hb hby dg1_10) (by decide) (by decide) ?_
  rw [e7]
  exact ⟨_, _, rfl, N7, K0_7, EQ7, Fm7, Fe7, Fz7, AQ7, gQ7, hn7, ge7⟩
theorem da3_0 : decode jdk_38_method_24_code 0 = .ok (.iload_n 3, 1) := by decide +kernel
theorem da3_1 : decode jdk_38_method_24_code 1 = .ok (.aload_n 2, 1) := by decide +kernel
theorem da3_2 : decode jdk_38_method_24_code 2 = .ok (.arraylength, 1) := by decide +kernel
theorem da3_3 : decode jdk_38_method_24_code 3 = .ok (.if_icmp .ne 8, 3) := by decide +kernel
theorem da3_6 : decode jdk_38_method_24_code 6 = .ok (.aload_n 0, 1) := by decide +kernel
theorem da3_7 : decode jdk_38_method_24_code 7 = .ok (.invokevirtual 129, 3) := by decide +kernel
theorem da3_10 : decode jdk_38_method_24_code 10 = .ok (.astore_n 2, 1) := by decide +kernel
theorem da3_11 : decode jdk_38_method_24_code 11 = .ok (.aload_n 2, 1) := by decide +kernel
theorem da3_12 : decode jdk_38_method_24_code 12 = .ok (.iload_n 3, 1) := by decide +kernel
theorem da3_13 : decode jdk_38_method_24_code 13 = .ok (.aload_n 1, 1) := by decide +kernel
theorem da3_14 : decode jdk_38_method_24_code 14 = .ok (.aastore, 1) := by decide +kernel
theorem da3_15 : decode jdk_38_method_24_code 15 = .ok (.aload_n 0, 1) := by decide +kernel
theorem da3_16 : decode jdk_38_method_24_code 16 = .ok (.iload_n 3, 1) := by decide +kernel
theorem da3_17 : decode jdk_38_method_24_code 17 = .ok (.iconst 1, 1) := by decide +kernel
theorem da3_18 : decode jdk_38_method_24_code 18 = .ok (.iadd, 1) := by decide +kernel
theorem da3_19 : decode jdk_38_method_24_code 19 = .ok (.putfield 48, 3) := by decide +kernel
theorem da3_22 : decode jdk_38_method_24_code 22 = .ok (.return_, 1) := by decide +kernel
theorem pda3_0 : parseMethodDescriptor "()[Ljava/lang/Object;" = some ⟨[], some (.array (.object "java/lang/Object"))⟩ := by decide +kernel
theorem pfa3 : plainFor (⟨"java/util/ArrayList", "add", "(Ljava/lang/Object;[Ljava/lang/Object;I)V"⟩ : MethodName) = true := by decide +kernel
set_option maxHeartbeats 4000000 in
theorem efa3 (m : MethodId) (a : Addr) (y : Addr) (dv : Addr) (q1 : Int32) : entryFrame m #[(.ref a), (.ref y), (.ref dv), (.int q1)] 4 = (mkF m 0 #[.val (.ref a), .val (.ref y), .val (.ref dv), .val (.int q1)] []) := by first | (simp [entryFrame, mkF, argsToLocals, Value.category, maxLocals]; done) | rfl
def Qa3 (Z : State) (a : Addr) (y : Addr) (dv : Addr) (q1 : Int32) (w1 : Int32) (w2 : Int32) (h0 : Heap) (n0 : Nat) (v : Option Value) (h : Heap) (L : List Loc) : Prop := v = none ∧ Fr n0 L ∧ Keep h0 h [a]
set_option maxRecDepth 65536 in
set_option maxHeartbeats 40000000 in
theorem rma3 (l : Launch) (Z : State) (a0 : Array Value) (hw : ∀ d ∈ tables_1, d.before a0 Z = true) (ws : List Jvm.Cond) (a : Addr) (y : Addr) (dv : Addr) (q1 : Int32) (w1 : Int32) (w2 : Int32) (h0 : Heap) (n0 : Nat) (Z0 : n0 ≤ h0.size) (E_a : Exa Z h0 a "java/util/ArrayList") (F_modCount_a : Fld Z h0 a "java/util/AbstractList" "modCount" "I" (.int w1)) (F_elementData_a : Fld Z h0 a "java/util/ArrayList" "elementData" "[Ljava/lang/Object;" (.ref dv)) (F_size_a : Fld Z h0 a "java/util/ArrayList" "size" "I" (.int w2)) (g_a : n0 ≤ a) (hO : Old Z n0 h0) (S_d : Sta Z Z.heap "java/util/ArrayList" "DEFAULTCAPACITY_EMPTY_ELEMENTDATA" "[Ljava/lang/Object;" (.ref dv)) (A_d : own_Ae Z Z.heap dv) (E_y : Exa Z h0 y "[B") (hp : q1.toInt = 0 ∧ w2.toInt = 0) :
    MetFree l (⟨"java/util/ArrayList", "add", "(Ljava/lang/Object;[Ljava/lang/Object;I)V"⟩ : MethodName) (head1 (Jvm.Cond.code (⟨"java/util/ArrayList", "add", "(Ljava/lang/Object;[Ljava/lang/Object;I)V"⟩ : MethodName) jdk_38_method_24_code 4 none :: ws) ({ frames := 3, cells := 1, slots := 10, locals := 50 } : Room)) (fun aa U => aa = #[(.ref a), (.ref y), (.ref dv), (.int q1)] ∧ Z.Warmed39 U.vm ∧ U.heap = h0) (fun _ _ _ _ _ => True) (fun _ U o U' => ∃ v L, o = .returned v ∧ Qa3 Z a y dv q1 w1 w2 h0 n0 v U'.heap L ∧ FrameEnd U o U' L ({ frames := 3, cells := 1, slots := 10, locals := 50 } : Room).cells ({ frames := 3, cells := 1, slots := 10, locals := 50 } : Room).slots) := by
  refine own_met pfa3 ?_
  intro p e s m below meth c T0 hx hby hml hown hret hlk hnm hZ X0 e0
  have N0 := Fr.nil n0
  have K0 := Keep.refl h0 [a]
  have r_q1 := rng32 q1
  rw [efa3]
  refine own_go (mkF m 1 #[.val (.ref a), .val (.ref y), .val (.ref dv), .val (.int q1)] [(.int q1)]) (fun t k => XS.iloadN X0.here hx rfl (hb hby da3_0) rfl k) ?_
  refine own_go (mkF m 2 #[.val (.ref a), .val (.ref y), .val (.ref dv), .val (.int q1)] [(.ref dv), (.int q1)]) (fun t k => XS.aloadN X0.here hx rfl (hb hby da3_1) rfl rfl k) ?_
  refine own_alen0 X0 hx hZ e0 (A_d.ext hO.2) (g := (mkF m 2 #[.val (.ref a), .val (.ref y), .val (.ref dv), .val (.int q1)] [(.ref dv), (.int q1)])) rfl rfl (hb hby da3_2) ?_
  show own_Ends p e below s ({ frames := 3, cells := 1, slots := 10, locals := 50 } : Room).cells ({ frames := 3, cells := 1, slots := 10, locals := 50 } : Room).slots (Qa3 Z a y dv q1 w1 w2 h0 n0) T0 (mkF m 3 #[.val (.ref a), .val (.ref y), .val (.ref dv), .val (.int q1)] [(.int (0 : Int32)), (.int q1)])
  have c3 : q1.toInt = 0 := by omega
  refine own_go (mkF m 6 #[.val (.ref a), .val (.ref y), .val (.ref dv), .val (.int q1)] []) (fun t k => XS.icmpNo X0.here hx rfl (hb hby da3_3) rfl (own_icF (cd := .ne) (fun q => q c3)) k) ?_
  refine own_go (mkF m 7 #[.val (.ref a), .val (.ref y), .val (.ref dv), .val (.int q1)] [(.ref a)]) (fun t k => XS.aloadN X0.here hx rfl (hb hby da3_6) rfl rfl k) ?_
  refine own_callP X0 hx hZ (y := (⟨"java/util/ArrayList", "grow", "()[Ljava/lang/Object;"⟩ : MethodName)) hown (hw _ (List.mem_of_getElem? (i := 81) rfl)) (hw _ (List.mem_of_getElem? (i := 82) rfl)) (hw _ (List.mem_of_getElem? (i := 29) rfl)) (hw _ (List.mem_of_getElem? (i := 83) rfl)) (hw _ (List.mem_of_getElem? (i := 30) rfl)) (hw _ (List.mem_of_getElem? (i := 85) rfl)) (by decide) e0 a E_a (rmg1 l Z a0 hw [] a  dv w1 w2 h0 n0 Z0 E_a F_modCount_a F_elementData_a F_size_a g_a hO S_d A_d (by omega)) 0 (by decide) (by decide) (by decide) (by decide) (g := (mkF m 7 #[.val (.ref a), .val (.ref y), .val (.ref dv), .val (.int q1)] [(.ref a)])) rfl (by rw [hml]; rfl) [] [] (lenOf pda3_0 rfl) rfl rfl (by show 2 * 0 + _ ≤ _; exact Nat.le_of_eq rfl) (hb hby da3_7) ?_
  intro rv7 T7 h7 L7 X7 e7 hQ7
  obtain ⟨bg7, nn7, rfl, NQ7, KQ7, EQ7, Fm7, Fe7, Fz7, AQ7, gQ7, hn7, ge7⟩ := hQ7
  have ne_a_bg7 : a ≠ bg7 := fun q => absurd E_a.lt (by rw [q]; exact Nat.not_lt.mpr ge7)
  have ne_y_bg7 : y ≠ bg7 := fun q => absurd E_y.lt (by rw [q]; exact Nat.not_lt.mpr ge7)
  have E_a_7 := E_a.keep KQ7
  have K0_7 := K0.trans KQ7 (allS (Or.inl (List.mem_cons_self ..)) all0)
  have hO_7 := hO.keep KQ7 (allS g_a all0)
  have E_y_7 := E_y.keep KQ7
  have Z0_7 : n0 ≤ h7.size := Nat.le_trans Z0 KQ7.1
  have in7 : bg7 ∈ [a] ∨ h0.size ≤ bg7 := Or.inr (Nat.le_trans K0.1 ge7)
  have N7 := Fr.app N0 NQ7
  show own_Ends p e below s ({ frames := 3, cells := 1, slots := 10, locals := 50 } : Room).cells ({ frames := 3, cells := 1, slots := 10, locals := 50 } : Room).slots (Qa3 Z a y dv q1 w1 w2 h0 n0) T7 (mkF m 10 #[.val (.ref a), .val (.ref y), .val (.ref dv), .val (.int q1)] [(.ref bg7)])
  refine own_go (mkF m 11 #[.val (.ref a), .val (.ref y), .val (.ref bg7), .val (.int q1)] []) (fun t k => XS.astoreN X7.here hx rfl (hb hby da3_10) rfl rfl (l' := #[.val (.ref a), .val (.ref y), .val (.ref bg7), .val (.int q1)]) rfl k) ?_
  refine own_go (mkF m 12 #[.val (.ref a), .val (.ref y), .val (.ref bg7), .val (.int q1)] [(.ref bg7)]) (fun t k => XS.aloadN X7.here hx rfl (hb hby da3_11) rfl rfl k) ?_
  refine own_go (mkF m 13 #[.val (.ref a), .val (.ref y), .val (.ref bg7), .val (.int q1)] [(.int q1), (.ref bg7)]) (fun t k => XS.iloadN X7.here hx rfl (hb hby da3_12) rfl k) ?_
  refine own_go (mkF m 14 #[.val (.ref a), .val (.ref y), .val (.ref bg7), .val (.int q1)] [(.ref y), (.int q1), (.ref bg7)]) (fun t k => XS.aloadN X7.here hx rfl (hb hby da3_13) rfl rfl k) ?_
  refine own_aastore X7 hx hZ e7 AQ7 (j := q1) (by omega) (by omega) (Ins.of_exa E_y_7 (hw _ (List.mem_of_getElem? (i := 96) rfl))) (g := (mkF m 14 #[.val (.ref a), .val (.ref y), .val (.ref bg7), .val (.int q1)] [(.ref y), (.int q1), (.ref bg7)])) rfl rfl (hb hby da3_14) ?_
  intro T14 h14 X14 e14 W14
  have N14 := Fr.snoc X14 N7 gQ7
  have EQ7_14 := EQ7.wr W14
  have K0_14 := K0_7.wr W14 in7
  have hO_14 := hO_7.wr W14 gQ7
  have E_y_14 := E_y_7.wr W14
  have Z0_14 : n0 ≤ h14.size := by rw [W14.size]; exact Z0_7
  have Fm7_14 := Fm7.other W14 (Or.inl ne_a_bg7)
  have Fe7_14 := Fe7.other W14 (Or.inl ne_a_bg7)
  have Fz7_14 := Fz7.other W14 (Or.inl ne_a_bg7)
  show own_Ends p e below s ({ frames := 3, cells := 1, slots := 10, locals := 50 } : Room).cells ({ frames := 3, cells := 1, slots := 10, locals := 50 } : Room).slots (Qa3 Z a y dv q1 w1 w2 h0 n0) T14 (mkF m 15 #[.val (.ref a), .val (.ref y), .val (.ref bg7), .val (.int q1)] [])
  refine own_go (mkF m 16 #[.val (.ref a), .val (.ref y), .val (.ref bg7), .val (.int q1)] [(.ref a)]) (fun t k => XS.aloadN X14.here hx rfl (hb hby da3_15) rfl rfl k) ?_
  refine own_go (mkF m 17 #[.val (.ref a), .val (.ref y), .val (.ref bg7), .val (.int q1)] [(.int q1), (.ref a)]) (fun t k => XS.iloadN X14.here hx rfl (hb hby da3_16) rfl k) ?_
  refine own_go (mkF m 18 #[.val (.ref a), .val (.ref y), .val (.ref bg7), .val (.int q1)] [(.int (1 : Int32)), (.int q1), (.ref a)]) (fun t k => XS.iconst X14.here hx rfl (hb hby da3_17) k) ?_
  refine own_go (mkF m 19 #[.val (.ref a), .val (.ref y), .val (.ref bg7), .val (.int q1)] [(.int (q1 + (1 : Int32))), (.ref a)]) (fun t k => XS.iadd X14.here hx rfl (hb hby da3_18) rfl k) ?_
  generalize hv18 : (q1 + (1 : Int32)) = v18
  have f18 : (v18.toInt - (q1.toInt + 1)) % 4294967296 = 0 := by rw [← hv18]; exact c_iadd q1 (1 : Int32)
  have r18 := rng32 v18
  obtain ⟨T19, h19, X19, e19, W19, st19⟩ := putF X14 hx hZ hown (host := "") (Or.inl (hw _ (List.mem_of_getElem? (i := 74) rfl))) Via.refl e14 Fz7_14 EQ7_14 (Or.inl (hw _ (List.mem_of_getElem? (i := 75) rfl))) (hw _ (List.mem_of_getElem? (i := 29) rfl)) (ty := .int) (by decide) rfl rfl (g := (mkF m 19 #[.val (.ref a), .val (.ref y), .val (.ref bg7), .val (.int q1)] [(.int v18), (.ref a)])) rfl rfl (hb hby da3_19)
  have N19 := Fr.snoc X19 N14 g_a
  have EQ7_19 := EQ7_14.wr W19
  have K0_19 := K0_14.wr W19 (Or.inl (List.mem_cons_self ..))
  have hO_19 := hO_14.wr W19 g_a
  have E_y_19 := E_y_14.wr W19
  have Z0_19 : n0 ≤ h19.size := by rw [W19.size]; exact Z0_14
  have Fm7_19 := Fm7_14.other W19 (Or.inr (slot_ne (Or.inl (hw _ (List.mem_of_getElem? (i := 48) rfl))) (Or.inl (hw _ (List.mem_of_getElem? (i := 75) rfl))) (by decide) (t := .int) (t' := .int) (by decide) (by decide)))
  have Fe7_19 := Fe7_14.other W19 (Or.inr (slot_ne (Or.inl (hw _ (List.mem_of_getElem? (i := 51) rfl))) (Or.inl (hw _ (List.mem_of_getElem? (i := 75) rfl))) (by decide) (t := (.array (.object "java/lang/Object"))) (t' := .int) (by decide) (by decide)))
  have Fz7_19 := Fz7_14.same W19
  refine own_go (T' := T19) (mkF m 22 #[.val (.ref a), .val (.ref y), .val (.ref bg7), .val (.int q1)] []) st19 ?_
  refine own_ret0 X19 hx hlk hret (hb hby da3_22) (by decide) (by decide) ?_
  rw [e19]
  exact ⟨rfl, N19, K0_19⟩
theorem da1_0 : decode jdk_38_method_25_code 0 = .ok (.aload_n 0, 1) := by decide +kernel
theorem da1_1 : decode jdk_38_method_25_code 1 = .ok (.dup, 1) := by decide +kernel
theorem da1_2 : decode jdk_38_method_25_code 2 = .ok (.getfield 63, 3) := by decide +kernel
theorem da1_5 : decode jdk_38_method_25_code 5 = .ok (.iconst 1, 1) := by decide +kernel
theorem da1_6 : decode jdk_38_method_25_code 6 = .ok (.iadd, 1) := by decide +kernel
theorem da1_7 : decode jdk_38_method_25_code 7 = .ok (.putfield 63, 3) := by decide +kernel
theorem da1_10 : decode jdk_38_method_25_code 10 = .ok (.aload_n 0, 1) := by decide +kernel
theorem da1_11 : decode jdk_38_method_25_code 11 = .ok (.aload_n 1, 1) := by decide +kernel
theorem da1_12 : decode jdk_38_method_25_code 12 = .ok (.aload_n 0, 1) := by decide +kernel
theorem da1_13 : decode jdk_38_method_25_code 13 = .ok (.getfield 9, 3) := by decide +kernel
theorem da1_16 : decode jdk_38_method_25_code 16 = .ok (.aload_n 0, 1) := by decide +kernel
theorem da1_17 : decode jdk_38_method_25_code 17 = .ok (.getfield 48, 3) := by decide +kernel
theorem da1_20 : decode jdk_38_method_25_code 20 = .ok (.invokevirtual 131, 3) := by decide +kernel
theorem da1_23 : decode jdk_38_method_25_code 23 = .ok (.iconst 1, 1) := by decide +kernel
theorem da1_24 : decode jdk_38_method_25_code 24 = .ok (.ireturn, 1) := by decide +kernel
theorem pda1_0 : parseMethodDescriptor "(Ljava/lang/Object;[Ljava/lang/Object;I)V" = some ⟨[(.object "java/lang/Object"), (.array (.object "java/lang/Object")), .int], none⟩ := by decide +kernel
theorem pfa1 : plainFor (⟨"java/util/ArrayList", "add", "(Ljava/lang/Object;)Z"⟩ : MethodName) = true := by decide +kernel
set_option maxHeartbeats 4000000 in
theorem efa1 (m : MethodId) (a : Addr) (y : Addr) : entryFrame m #[(.ref a), (.ref y)] 2 = (mkF m 0 #[.val (.ref a), .val (.ref y)] []) := by first | (simp [entryFrame, mkF, argsToLocals, Value.category, maxLocals]; done) | rfl
def Qa1 (Z : State) (a : Addr) (y : Addr) (dv : Addr) (w1 : Int32) (w2 : Int32) (h0 : Heap) (n0 : Nat) (v : Option Value) (h : Heap) (L : List Loc) : Prop := (∃ r : Int32, v = some (.int r) ∧ True) ∧ Fr n0 L ∧ Keep h0 h [a]
set_option maxRecDepth 65536 in
set_option maxHeartbeats 40000000 in
theorem rma1 (l : Launch) (Z : State) (a0 : Array Value) (hw : ∀ d ∈ tables_1, d.before a0 Z = true) (ws : List Jvm.Cond) (a : Addr) (y : Addr) (dv : Addr) (w1 : Int32) (w2 : Int32) (h0 : Heap) (n0 : Nat) (Z0 : n0 ≤ h0.size) (E_a : Exa Z h0 a "java/util/ArrayList") (F_modCount_a : Fld Z h0 a "java/util/AbstractList" "modCount" "I" (.int w1)) (F_elementData_a : Fld Z h0 a "java/util/ArrayList" "elementData" "[Ljava/lang/Object;" (.ref dv)) (F_size_a : Fld Z h0 a "java/util/ArrayList" "size" "I" (.int w2)) (g_a : n0 ≤ a) (hO : Old Z n0 h0) (S_d : Sta Z Z.heap "java/util/ArrayList" "DEFAULTCAPACITY_EMPTY_ELEMENTDATA" "[Ljava/lang/Object;" (.ref dv)) (A_d : own_Ae Z Z.heap dv) (E_y : Exa Z h0 y "[B") (hp : w2.toInt = 0) :
    MetFree l (⟨"java/util/ArrayList", "add", "(Ljava/lang/Object;)Z"⟩ : MethodName) (head1 (Jvm.Cond.code (⟨"java/util/ArrayList", "add", "(Ljava/lang/Object;)Z"⟩ : MethodName) jdk_38_method_25_code 2 (some Jvm.ClassFile.FieldType.boolean) :: ws) ({ frames := 4, cells := 1, slots := 10, locals := 70 } : Room)) (fun aa U => aa = #[(.ref a), (.ref y)] ∧ Z.Warmed39 U.vm ∧ U.heap = h0) (fun _ _ _ _ _ => True) (fun _ U o U' => ∃ v L, o = .returned v ∧ Qa1 Z a y dv w1 w2 h0 n0 v U'.heap L ∧ FrameEnd U o U' L ({ frames := 4, cells := 1, slots := 10, locals := 70 } : Room).cells ({ frames := 4, cells := 1, slots := 10, locals := 70 } : Room).slots) := by
  refine own_met pfa1 ?_
  intro p e s m below meth c T0 hx hby hml hown hret hlk hnm hZ X0 e0
  have N0 := Fr.nil n0
  have K0 := Keep.refl h0 [a]
  rw [efa1]
  refine own_go (mkF m 1 #[.val (.ref a), .val (.ref y)] [(.ref a)]) (fun t k => XS.aloadN X0.here hx rfl (hb hby da1_0) rfl rfl k) ?_
  refine own_go (mkF m 2 #[.val (.ref a), .val (.ref y)] [(.ref a), (.ref a)]) (fun t k => XS.dup X0.here hx rfl (hb hby da1_1) rfl rfl k) ?_
  obtain ⟨T2, X2, e2, st2⟩ := getF X0 hx hZ hown (host := "") (Or.inl (hw _ (List.mem_of_getElem? (i := 72) rfl))) (Via.of (hw _ (List.mem_of_getElem? (i := 73) rfl))) e0 F_modCount_a (g := (mkF m 2 #[.val (.ref a), .val (.ref y)] [(.ref a), (.ref a)])) rfl rfl (hb hby da1_2)
  refine own_go (T' := T2) (mkF m 5 #[.val (.ref a), .val (.ref y)] [(.int w1), (.ref a)]) st2 ?_
  refine own_go (mkF m 6 #[.val (.ref a), .val (.ref y)] [(.int (1 : Int32)), (.int w1), (.ref a)]) (fun t k => XS.iconst X2.here hx rfl (hb hby da1_5) k) ?_
  refine own_go (mkF m 7 #[.val (.ref a), .val (.ref y)] [(.int (w1 + (1 : Int32))), (.ref a)]) (fun t k => XS.iadd X2.here hx rfl (hb hby da1_6) rfl k) ?_
  generalize hv6 : (w1 + (1 : Int32)) = v6
  have f6 : (v6.toInt - (w1.toInt + 1)) % 4294967296 = 0 := by rw [← hv6]; exact c_iadd w1 (1 : Int32)
  have r6 := rng32 v6
  obtain ⟨T7, h7, X7, e7, W7, st7⟩ := putF X2 hx hZ hown (host := "") (Or.inl (hw _ (List.mem_of_getElem? (i := 72) rfl))) (Via.of (hw _ (List.mem_of_getElem? (i := 73) rfl))) e2 F_modCount_a E_a (Or.inl (hw _ (List.mem_of_getElem? (i := 48) rfl))) (hw _ (List.mem_of_getElem? (i := 29) rfl)) (ty := .int) (by decide) rfl rfl (g := (mkF m 7 #[.val (.ref a), .val (.ref y)] [(.int v6), (.ref a)])) rfl rfl (hb hby da1_7)
  have N7 := Fr.snoc X7 N0 g_a
  have E_a_7 := E_a.wr W7
  have F_modCount_a_7 := F_modCount_a.same W7
  have F_elementData_a_7 := F_elementData_a.other W7 (Or.inr (slot_ne (Or.inl (hw _ (List.mem_of_getElem? (i := 51) rfl))) (Or.inl (hw _ (List.mem_of_getElem? (i := 48) rfl))) (by decide) (t := (.array (.object "java/lang/Object"))) (t' := .int) (by decide) (by decide)))
  have F_size_a_7 := F_size_a.other W7 (Or.inr (slot_ne (Or.inl (hw _ (List.mem_of_getElem? (i := 75) rfl))) (Or.inl (hw _ (List.mem_of_getElem? (i := 48) rfl))) (by decide) (t := .int) (t' := .int) (by decide) (by decide)))
  have K0_7 := K0.wr W7 (Or.inl (List.mem_cons_self ..))
  have hO_7 := hO.wr W7 g_a
  have E_y_7 := E_y.wr W7
  have Z0_7 : n0 ≤ h7.size := by rw [W7.size]; exact Z0
  refine own_go (T' := T7) (mkF m 10 #[.val (.ref a), .val (.ref y)] []) st7 ?_
  refine own_go (mkF m 11 #[.val (.ref a), .val (.ref y)] [(.ref a)]) (fun t k => XS.aloadN X7.here hx rfl (hb hby da1_10) rfl rfl k) ?_
  refine own_go (mkF m 12 #[.val (.ref a), .val (.ref y)] [(.ref y), (.ref a)]) (fun t k => XS.aloadN X7.here hx rfl (hb hby da1_11) rfl rfl k) ?_
  refine own_go (mkF m 13 #[.val (.ref a), .val (.ref y)] [(.ref a), (.ref y), (.ref a)]) (fun t k => XS.aloadN X7.here hx rfl (hb hby da1_12) rfl rfl k) ?_
  obtain ⟨T13, X13, e13, st13⟩ := getF X7 hx hZ hown (host := "") (Or.inl (hw _ (List.mem_of_getElem? (i := 50) rfl))) Via.refl e7 F_elementData_a_7 (g := (mkF m 13 #[.val (.ref a), .val (.ref y)] [(.ref a), (.ref y), (.ref a)])) rfl rfl (hb hby da1_13)
  refine own_go (T' := T13) (mkF m 16 #[.val (.ref a), .val (.ref y)] [(.ref dv), (.ref y), (.ref a)]) st13 ?_
  refine own_go (mkF m 17 #[.val (.ref a), .val (.ref y)] [(.ref a), (.ref dv), (.ref y), (.ref a)]) (fun t k => XS.aloadN X13.here hx rfl (hb hby da1_16) rfl rfl k) ?_
  obtain ⟨T17, X17, e17, st17⟩ := getF X13 hx hZ hown (host := "") (Or.inl (hw _ (List.mem_of_getElem? (i := 74) rfl))) Via.refl e13 F_size_a_7 (g := (mkF m 17 #[.val (.ref a), .val (.ref y)] [(.ref a), (.ref dv), (.ref y), (.ref a)])) rfl rfl (hb hby da1_17)
  refine own_go (T' := T17) (mkF m 20 #[.val (.ref a), .val (.ref y)] [(.int w2), (.ref dv), (.ref y), (.ref a)]) st17 ?_
  refine own_callP X17 hx hZ (y := (⟨"java/util/ArrayList", "add", "(Ljava/lang/Object;[Ljava/lang/Object;I)V"⟩ : MethodName)) hown (hw _ (List.mem_of_getElem? (i := 76) rfl)) (hw _ (List.mem_of_getElem? (i := 77) rfl)) (hw _ (List.mem_of_getElem? (i := 29) rfl)) (hw _ (List.mem_of_getElem? (i := 78) rfl)) (hw _ (List.mem_of_getElem? (i := 30) rfl)) (hw _ (List.mem_of_getElem? (i := 80) rfl)) (by decide) e17 a E_a_7 (rma3 l Z a0 hw [] a y dv w2 v6 w2 h7 n0 Z0_7 E_a_7 F_modCount_a_7 F_elementData_a_7 F_size_a_7 g_a hO_7 S_d A_d E_y_7 (by omega)) 0 (by decide) (by decide) (by decide) (by decide) (g := (mkF m 20 #[.val (.ref a), .val (.ref y)] [(.int w2), (.ref dv), (.ref y), (.ref a)])) rfl (by rw [hml]; rfl) [(.ref y), (.ref dv), (.int w2)] [] (lenOf pda1_0 rfl) rfl rfl (by show 2 * 0 + _ ≤ _; exact Nat.le_of_eq rfl) (hb hby da1_20) ?_
  intro rv20 T20 h20 L20 X20 e20 hQ20
  obtain ⟨rfl, NQ20, KQ20⟩ := hQ20
  have E_a_20 := E_a_7.keep KQ20
  have K0_20 := K0_7.trans KQ20 (allS (Or.inl (List.mem_cons_self ..)) all0)
  have hO_20 := hO_7.keep KQ20 (allS g_a all0)
  have E_y_20 := E_y_7.keep KQ20
  have Z0_20 : n0 ≤ h20.size := Nat.le_trans Z0_7 KQ20.1
  have N20 := Fr.app N7 NQ20
  show own_Ends p e below s ({ frames := 4, cells := 1, slots := 10, locals := 70 } : Room).cells ({ frames := 4, cells := 1, slots := 10, locals := 70 } : Room).slots (Qa1 Z a y dv w1 w2 h0 n0) T20 (mkF m 23 #[.val (.ref a), .val (.ref y)] [])
  refine own_go (mkF m 24 #[.val (.ref a), .val (.ref y)] [(.int (1 : Int32))]) (fun t k => XS.iconst X20.here hx rfl (hb hby da1_23) k) ?_
  refine own_retI X20 hx hlk hret (by simp) rfl (hb hby da1_24) (by decide) (by decide) ?_
  rw [e20]
  exact ⟨⟨_, rfl, trivial⟩, N20, K0_20⟩
theorem dcb_0 : decode prog_60_method_1_code 0 = .ok (.aload_n 0, 1) := by decide +kernel
theorem dcb_1 : decode prog_60_method_1_code 1 = .ok (.invokespecial 1, 3) := by decide +kernel
theorem dcb_4 : decode prog_60_method_1_code 4 = .ok (.aload_n 0, 1) := by decide +kernel
theorem dcb_5 : decode prog_60_method_1_code 5 = .ok (.new 7, 3) := by decide +kernel
theorem dcb_8 : decode prog_60_method_1_code 8 = .ok (.dup, 1) := by decide +kernel
theorem dcb_9 : decode prog_60_method_1_code 9 = .ok (.invokespecial 9, 3) := by decide +kernel
theorem dcb_12 : decode prog_60_method_1_code 12 = .ok (.putfield 10, 3) := by decide +kernel
theorem dcb_15 : decode prog_60_method_1_code 15 = .ok (.aload_n 0, 1) := by decide +kernel
theorem dcb_16 : decode prog_60_method_1_code 16 = .ok (.iload_n 1, 1) := by decide +kernel
theorem dcb_17 : decode prog_60_method_1_code 17 = .ok (.putfield 16, 3) := by decide +kernel
theorem dcb_20 : decode prog_60_method_1_code 20 = .ok (.aload_n 0, 1) := by decide +kernel
theorem dcb_21 : decode prog_60_method_1_code 21 = .ok (.bipush 64, 2) := by decide +kernel
theorem dcb_23 : decode prog_60_method_1_code 23 = .ok (.iload_n 1, 1) := by decide +kernel
theorem dcb_24 : decode prog_60_method_1_code 24 = .ok (.invokestatic 20, 3) := by decide +kernel
theorem dcb_27 : decode prog_60_method_1_code 27 = .ok (.newarray .byte, 2) := by decide +kernel
theorem dcb_29 : decode prog_60_method_1_code 29 = .ok (.putfield 26, 3) := by decide +kernel
theorem dcb_32 : decode prog_60_method_1_code 32 = .ok (.aload_n 0, 1) := by decide +kernel
theorem dcb_33 : decode prog_60_method_1_code 33 = .ok (.getfield 10, 3) := by decide +kernel
theorem dcb_36 : decode prog_60_method_1_code 36 = .ok (.aload_n 0, 1) := by decide +kernel
theorem dcb_37 : decode prog_60_method_1_code 37 = .ok (.getfield 26, 3) := by decide +kernel
theorem dcb_40 : decode prog_60_method_1_code 40 = .ok (.invokeinterface 30 2, 5) := by decide +kernel
theorem dcb_45 : decode prog_60_method_1_code 45 = .ok (.pop, 1) := by decide +kernel
theorem dcb_46 : decode prog_60_method_1_code 46 = .ok (.return_, 1) := by decide +kernel
theorem pdcb_0 : parseMethodDescriptor "()V" = some ⟨[], none⟩ := by decide +kernel
theorem pdcb_1 : parseMethodDescriptor "(II)I" = some ⟨[.int, .int], some .int⟩ := by decide +kernel
theorem pdcb_2 : parseMethodDescriptor "(Ljava/lang/Object;)Z" = some ⟨[(.object "java/lang/Object")], some .boolean⟩ := by decide +kernel
theorem pfcb : plainFor (⟨"com/example/dispatchwire/dispatchwire/ndr/NdrWriter$ChunkedBuffer", "<init>", "(I)V"⟩ : MethodName) = true := by decide +kernel
set_option maxHeartbeats 4000000 in
theorem efcb (m : MethodId) (a : Addr) (q1 : Int32) : entryFrame m #[(.ref a), (.int q1)] 2 = (mkF m 0 #[.val (.ref a), .val (.int q1)] []) := by first | (simp [entryFrame, mkF, argsToLocals, Value.category, maxLocals]; done) | rfl
def Qcb (Z : State) (a : Addr) (q1 : Int32) (dv : Addr) (h0 : Heap) (n0 : Nat) (v : Option Value) (h : Heap) (L : List Loc) : Prop := v = none ∧ Fr n0 L ∧ Keep h0 h [a] ∧ Exa Z h a "com/example/dispatchwire/dispatchwire/ndr/NdrWriter$ChunkedBuffer" ∧ Fld Z h a "com/example/dispatchwire/dispatchwire/ndr/NdrWriter$ChunkedBuffer" "filled" "I" (.int 0) ∧ Fld Z h a "com/example/dispatchwire/dispatchwire/ndr/NdrWriter$ChunkedBuffer" "used" "I" (.int 0)
set_option maxRecDepth 65536 in
set_option maxHeartbeats 40000000 in
theorem rmcb (l : Launch) (Z : State) (a0 : Array Value) (hw : ∀ d ∈ tables_1, d.before a0 Z = true) (ws : List Jvm.Cond) (a : Addr) (q1 : Int32) (dv : Addr) (h0 : Heap) (n0 : Nat) (Z0 : n0 ≤ h0.size) (E_a : Exa Z h0 a "com/example/dispatchwire/dispatchwire/ndr/NdrWriter$ChunkedBuffer") (F_chunks_a : Fld Z h0 a "com/example/dispatchwire/dispatchwire/ndr/NdrWriter$ChunkedBuffer" "chunks" "Ljava/util/List;" (.null)) (F_limit_a : Fld Z h0 a "com/example/dispatchwire/dispatchwire/ndr/NdrWriter$ChunkedBuffer" "limit" "I" (.int (0 : Int32))) (F_chunk_a : Fld Z h0 a "com/example/dispatchwire/dispatchwire/ndr/NdrWriter$ChunkedBuffer" "chunk" "[B" (.null)) (F_filled_a : Fld Z h0 a "com/example/dispatchwire/dispatchwire/ndr/NdrWriter$ChunkedBuffer" "filled" "I" (.int (0 : Int32))) (F_used_a : Fld Z h0 a "com/example/dispatchwire/dispatchwire/ndr/NdrWriter$ChunkedBuffer" "used" "I" (.int (0 : Int32))) (g_a : n0 ≤ a) (hO : Old Z n0 h0) (S_d : Sta Z Z.heap "java/util/ArrayList" "DEFAULTCAPACITY_EMPTY_ELEMENTDATA" "[Ljava/lang/Object;" (.ref dv)) (A_d : own_Ae Z Z.heap dv) (hp : 0 ≤ q1.toInt) :
    MetFree l (⟨"com/example/dispatchwire/dispatchwire/ndr/NdrWriter$ChunkedBuffer", "<init>", "(I)V"⟩ : MethodName) (head1 (Jvm.Cond.code (⟨"com/example/dispatchwire/dispatchwire/ndr/NdrWriter$ChunkedBuffer", "<init>", "(I)V"⟩ : MethodName) prog_60_method_1_code 2 none :: ws) ({ frames := 5, cells := 3, slots := 77, locals := 100 } : Room)) (fun aa U => aa = #[(.ref a), (.int q1)] ∧ Z.Warmed39 U.vm ∧ U.heap = h0) (fun _ _ _ _ _ => True) (fun _ U o U' => ∃ v L, o = .returned v ∧ Qcb Z a q1 dv h0 n0 v U'.heap L ∧ FrameEnd U o U' L ({ frames := 5, cells := 3, slots := 77, locals := 100 } : Room).cells ({ frames := 5, cells := 3, slots := 77, locals := 100 } : Room).slots) := by
  refine own_met pfcb ?_
  intro p e s m below meth c T0 hx hby hml hown hret hlk hnm hZ X0 e0
  have N0 := Fr.nil n0
  have K0 := Keep.refl h0 [a]
  have r_q1 := rng32 q1
  rw [efcb]
  refine own_go (mkF m 1 #[.val (.ref a), .val (.int q1)] [(.ref a)]) (fun t k => XS.aloadN X0.here hx rfl (hb hby dcb_0) rfl rfl k) ?_
  obtain ⟨T1, X1, e1, st1⟩ := initO X0 hx hZ hown (hw _ (List.mem_of_getElem? (i := 27) rfl)) (hw _ (List.mem_of_getElem? (i := 11) rfl)) (hw _ (List.mem_of_getElem? (i := 12) rfl)) e0 (g := (mkF m 1 #[.val (.ref a), .val (.int q1)] [(.ref a)])) rfl (by rw [hml]; rfl) rfl (hb hby dcb_1) (by decide) (W := 0) (by show 2 * 0 + _ ≤ _; exact Nat.le_of_eq rfl) (by decide)
  refine own_go (T' := T1) (mkF m 4 #[.val (.ref a), .val (.int q1)] []) st1 ?_
  refine own_go (mkF m 5 #[.val (.ref a), .val (.int q1)] [(.ref a)]) (fun t k => XS.aloadN X1.here hx rfl (hb hby dcb_4) rfl rfl k) ?_
  obtain ⟨T5, h5, X5, e5, E5, A5, D5, -, st5⟩ := newO X1 hx hZ hown (hw _ (List.mem_of_getElem? (i := 28) rfl)) (hw _ (List.mem_of_getElem? (i := 29) rfl)) (hw _ (List.mem_of_getElem? (i := 30) rfl)) e1 (g := (mkF m 5 #[.val (.ref a), .val (.int q1)] [(.ref a)])) rfl (hb hby dcb_5) (by decide) (by decide)
  obtain ⟨b5, g5⟩ : ∃ z, z = h0.size := ⟨_, rfl⟩
  rw [← g5] at A5 D5 st5
  have gb5 : n0 ≤ b5 := Nat.le_trans Z0 (Nat.le_of_eq g5.symm)
  have ne_a_b5 : a ≠ b5 := fun q => Nat.lt_irrefl h0.size (by have := E_a.lt; rw [q, g5] at this; exact this)
  have E_a_5 := E_a.ext E5
  have K0_5 := K0.ext E5
  have F_chunks_a_5 := F_chunks_a.ext E5
  have F_limit_a_5 := F_limit_a.ext E5
  have F_chunk_a_5 := F_chunk_a.ext E5
  have F_filled_a_5 := F_filled_a.ext E5
  have F_used_a_5 := F_used_a.ext E5
  have hO_5 := hO.ext E5
  have Z0_5 : n0 ≤ h5.size := Nat.le_trans Z0 E5.1
  have in5 : b5 ∈ [a] ∨ h0.size ≤ b5 := Or.inr (Nat.le_trans K0.1 (Nat.le_of_eq g5.symm))
  have F_modCount_b5 : Fld Z h5 b5 "java/util/AbstractList" "modCount" "I" (.int (0 : Int32)) := D5 (Or.inl (hw _ (List.mem_of_getElem? (i := 48) rfl))) (ty := .int) (by decide)
  have F_elementData_b5 : Fld Z h5 b5 "java/util/ArrayList" "elementData" "[Ljava/lang/Object;" (.null) := D5 (Or.inl (hw _ (List.mem_of_getElem? (i := 51) rfl))) (ty := (.array (.object "java/lang/Object"))) (by decide)
  have F_size_b5 : Fld Z h5 b5 "java/util/ArrayList" "size" "I" (.int (0 : Int32)) := D5 (Or.inl (hw _ (List.mem_of_getElem? (i := 75) rfl))) (ty := .int) (by decide)
  refine own_go (T' := T5) (mkF m 8 #[.val (.ref a), .val (.int q1)] [(.ref b5), (.ref a)]) st5 ?_
  refine own_go (mkF m 9 #[.val (.ref a), .val (.int q1)] [(.ref b5), (.ref b5), (.ref a)]) (fun t k => XS.dup X5.here hx rfl (hb hby dcb_8) rfl rfl k) ?_
  refine own_callI X5 hx hZ (y := (⟨"java/util/ArrayList", "<init>", "()V"⟩ : MethodName)) hown rfl (hw _ (List.mem_of_getElem? (i := 31) rfl)) (hw _ (List.mem_of_getElem? (i := 32) rfl)) (hw _ (List.mem_of_getElem? (i := 30) rfl)) (hw _ (List.mem_of_getElem? (i := 33) rfl)) (by decide) e5 (rmal l Z a0 hw [] b5 dv h5 n0 Z0_5 A5 F_modCount_b5 F_elementData_b5 F_size_b5 gb5 hO_5 S_d A_d) 2 (by decide) (by decide) (by decide) (by decide) (g := (mkF m 9 #[.val (.ref a), .val (.int q1)] [(.ref b5), (.ref b5), (.ref a)])) rfl (by rw [hml]; rfl) b5 [] [(.ref b5), (.ref a)] (lenOf pdcb_0 rfl) rfl rfl (by show 2 * 0 + _ ≤ _; exact Nat.le_of_eq rfl) (hb hby dcb_9) ?_
  intro rv9 T9 h9 L9 X9 e9 hQ9
  obtain ⟨rfl, NQ9, KQ9, EQ9, Fm9, Fe9, Fz9⟩ := hQ9
  have E_a_9 := E_a_5.keep KQ9
  have K0_9 := K0_5.trans KQ9 (allS in5 all0)
  have F_chunks_a_9 := F_chunks_a_5.keep KQ9 (ninS ne_a_b5 nin0)
  have F_limit_a_9 := F_limit_a_5.keep KQ9 (ninS ne_a_b5 nin0)
  have F_chunk_a_9 := F_chunk_a_5.keep KQ9 (ninS ne_a_b5 nin0)
  have F_filled_a_9 := F_filled_a_5.keep KQ9 (ninS ne_a_b5 nin0)
  have F_used_a_9 := F_used_a_5.keep KQ9 (ninS ne_a_b5 nin0)
  have hO_9 := hO_5.keep KQ9 (allS gb5 all0)
  have Z0_9 : n0 ≤ h9.size := Nat.le_trans Z0_5 KQ9.1
  have A5_9 := A5.keep KQ9
  have N9 := Fr.app N0 NQ9
  show own_Ends p e below s ({ frames := 5, cells := 3, slots := 77, locals := 100 } : Room).cells ({ frames := 5, cells := 3, slots := 77, locals := 100 } : Room).slots (Qcb Z a q1 dv h0 n0) T9 (mkF m 12 #[.val (.ref a), .val (.int q1)] [(.ref b5), (.ref a)])
  obtain ⟨T12, h12, X12, e12, W12, st12⟩ := putF X9 hx hZ hown (host := "") (Or.inl (hw _ (List.mem_of_getElem? (i := 52) rfl))) Via.refl e9 F_chunks_a_9 E_a_9 (Or.inr ⟨(hw _ (List.mem_of_getElem? (i := 53) rfl)), rfl, hnm⟩) (hw _ (List.mem_of_getElem? (i := 21) rfl)) (ty := (.object "java/util/List")) (by decide) rfl rfl (g := (mkF m 12 #[.val (.ref a), .val (.int q1)] [(.ref b5), (.ref a)])) rfl rfl (hb hby dcb_12)
  have N12 := Fr.snoc X12 N9 g_a
  have E_a_12 := E_a_9.wr W12
  have K0_12 := K0_9.wr W12 (Or.inl (List.mem_cons_self ..))
  have F_chunks_a_12 := F_chunks_a_9.same W12
  have F_limit_a_12 := F_limit_a_9.other W12 (Or.inr (slot_ne (Or.inr (hw _ (List.mem_of_getElem? (i := 55) rfl))) (Or.inr (hw _ (List.mem_of_getElem? (i := 53) rfl))) (by decide) (t := .int) (t' := (.object "java/util/List")) (by decide) (by decide)))
  have F_chunk_a_12 := F_chunk_a_9.other W12 (Or.inr (slot_ne (Or.inl (hw _ (List.mem_of_getElem? (i := 62) rfl))) (Or.inr (hw _ (List.mem_of_getElem? (i := 53) rfl))) (by decide) (t := (.array .byte)) (t' := (.object "java/util/List")) (by decide) (by decide)))
  have F_filled_a_12 := F_filled_a_9.other W12 (Or.inr (slot_ne (Or.inl (hw _ (List.mem_of_getElem? (i := 119) rfl))) (Or.inr (hw _ (List.mem_of_getElem? (i := 53) rfl))) (by decide) (t := .int) (t' := (.object "java/util/List")) (by decide) (by decide)))
  have F_used_a_12 := F_used_a_9.other W12 (Or.inr (slot_ne (Or.inl (hw _ (List.mem_of_getElem? (i := 121) rfl))) (Or.inr (hw _ (List.mem_of_getElem? (i := 53) rfl))) (by decide) (t := .int) (t' := (.object "java/util/List")) (by decide) (by decide)))
  have hO_12 := hO_9.wr W12 g_a
  have Z0_12 : n0 ≤ h12.size := by rw [W12.size]; exact Z0_9
  have EQ9_12 := EQ9.wr W12
  have Fm9_12 := Fm9.other W12 (Or.inl (Ne.symm ne_a_b5))
  have Fe9_12 := Fe9.other W12 (Or.inl (Ne.symm ne_a_b5))
  have Fz9_12 := Fz9.other W12 (Or.inl (Ne.symm ne_a_b5))
  refine own_go (T' := T12) (mkF m 15 #[.val (.ref a), .val (.int q1)] []) st12 ?_
  refine own_go (mkF m 16 #[.val (.ref a), .val (.int q1)] [(.ref a)]) (fun t k => XS.aloadN X12.here hx rfl (hb hby dcb_15) rfl rfl k) ?_
  refine own_go (mkF m 17 #[.val (.ref a), .val (.int q1)] [(.int q1), (.ref a)]) (fun t k => XS.iloadN X12.here hx rfl (hb hby dcb_16) rfl k) ?_
  obtain ⟨T17, h17, X17, e17, W17, st17⟩ := putF X12 hx hZ hown (host := "") (Or.inl (hw _ (List.mem_of_getElem? (i := 54) rfl))) Via.refl e12 F_limit_a_12 E_a_12 (Or.inr ⟨(hw _ (List.mem_of_getElem? (i := 55) rfl)), rfl, hnm⟩) (hw _ (List.mem_of_getElem? (i := 21) rfl)) (ty := .int) (by decide) rfl rfl (g := (mkF m 17 #[.val (.ref a), .val (.int q1)] [(.int q1), (.ref a)])) rfl rfl (hb hby dcb_17)
  have N17 := Fr.snoc X17 N12 g_a
  have E_a_17 := E_a_12.wr W17
  have K0_17 := K0_12.wr W17 (Or.inl (List.mem_cons_self ..))
  have F_chunks_a_17 := F_chunks_a_12.other W17 (Or.inr (slot_ne (Or.inr (hw _ (List.mem_of_getElem? (i := 53) rfl))) (Or.inr (hw _ (List.mem_of_getElem? (i := 55) rfl))) (by decide) (t := (.object "java/util/List")) (t' := .int) (by decide) (by decide)))
  have F_limit_a_17 := F_limit_a_12.same W17
  have F_chunk_a_17 := F_chunk_a_12.other W17 (Or.inr (slot_ne (Or.inl (hw _ (List.mem_of_getElem? (i := 62) rfl))) (Or.inr (hw _ (List.mem_of_getElem? (i := 55) rfl))) (by decide) (t := (.array .byte)) (t' := .int) (by decide) (by decide)))
  have F_filled_a_17 := F_filled_a_12.other W17 (Or.inr (slot_ne (Or.inl (hw _ (List.mem_of_getElem? (i := 119) rfl))) (Or.inr (hw _ (List.mem_of_getElem? (i := 55) rfl))) (by decide) (t := .int) (t' := .int) (by decide) (by decide)))
  have F_used_a_17 := F_used_a_12.other W17 (Or.inr (slot_ne (Or.inl (hw _ (List.mem_of_getElem? (i := 121) rfl))) (Or.inr (hw _ (List.mem_of_getElem? (i := 55) rfl))) (by decide) (t := .int) (t' := .int) (by decide) (by decide)))
  have hO_17 := hO_12.wr W17 g_a
  have Z0_17 : n0 ≤ h17.size := by rw [W17.size]; exact Z0_12
  have EQ9_17 := EQ9_12.wr W17
  have Fm9_17 := Fm9_12.other W17 (Or.inl (Ne.symm ne_a_b5))
  have Fe9_17 := Fe9_12.other W17 (Or.inl (Ne.symm ne_a_b5))
  have Fz9_17 := Fz9_12.other W17 (Or.inl (Ne.symm ne_a_b5))
  refine own_go (T' := T17) (mkF m 20 #[.val (.ref a), .val (.int q1)] []) st17 ?_
  refine own_go (mkF m 21 #[.val (.ref a), .val (.int q1)] [(.ref a)]) (fun t k => XS.aloadN X17.here hx rfl (hb hby dcb_20) rfl rfl k) ?_
  refine own_go (mkF m 23 #[.val (.ref a), .val (.int q1)] [(.int (64 : Int32)), (.ref a)]) (fun t k => XS.bipush X17.here hx rfl (hb hby dcb_21) k) ?_
  refine own_go (mkF m 24 #[.val (.ref a), .val (.int q1)] [(.int q1), (.int (64 : Int32)), (.ref a)]) (fun t k => XS.iloadN X17.here hx rfl (hb hby dcb_23) rfl k) ?_
  have lt24_0 : (64 : Int32).toInt = 64 := rfl
  refine own_callS X17 hx hZ (y := (⟨"java/lang/Math", "min", "(II)I"⟩ : MethodName)) hown (hw _ (List.mem_of_getElem? (i := 56) rfl)) (hw _ (List.mem_of_getElem? (i := 57) rfl)) (hw _ (List.mem_of_getElem? (i := 58) rfl)) (hw _ (List.mem_of_getElem? (i := 59) rfl)) (by decide) e17 (rmmn l Z a0 hw [] (64 : Int32) q1 h17 n0 Z0_17 ) 1 (by decide) (by decide) (by decide) (by decide) (g := (mkF m 24 #[.val (.ref a), .val (.int q1)] [(.int q1), (.int (64 : Int32)), (.ref a)])) rfl (by rw [hml]; rfl) [(.int (64 : Int32)), (.int q1)] [(.ref a)] (lenOf pdcb_1 rfl) rfl rfl (by show 2 * 0 + _ ≤ _; exact Nat.le_of_eq rfl) (hb hby dcb_24) ?_
  intro rv24 T24 h24 L24 X24 e24 hQ24
  obtain ⟨⟨r24, rfl, hr24⟩, NQ24, eq24⟩ := hQ24
  rw [eq24] at e24
  have rr24 := rng32 r24
  have N24 := Fr.app N17 NQ24
  show own_Ends p e below s ({ frames := 5, cells := 3, slots := 77, locals := 100 } : Room).cells ({ frames := 5, cells := 3, slots := 77, locals := 100 } : Room).slots (Qcb Z a q1 dv h0 n0) T24 (mkF m 27 #[.val (.ref a), .val (.int q1)] [(.int r24), (.ref a)])
  refine own_newbytes X24 hx hZ (hw _ (List.mem_of_getElem? (i := 60) rfl)) e24 (g := (mkF m 27 #[.val (.ref a), .val (.int q1)] [(.int r24), (.ref a)])) rfl (hb hby dcb_27) rfl (by omega) 64 (by omega) (by decide) (by decide) (by decide) ?_
  intro T27 h27 b27 X27 e27 E27 g27 A27
  have gb27 : n0 ≤ b27 := Nat.le_trans Z0_17 (Nat.le_of_eq g27.symm)
  have ne_a_b27 : a ≠ b27 := fun q => Nat.lt_irrefl h17.size (by have := E_a_17.lt; rw [q, g27] at this; exact this)
  have ne_b5_b27 : b5 ≠ b27 := fun q => Nat.lt_irrefl h17.size (by have := EQ9_17.lt; rw [q, g27] at this; exact this)
  have E_a_27 := E_a_17.ext E27
  have K0_27 := K0_17.ext E27
  have F_chunks_a_27 := F_chunks_a_17.ext E27
  have F_limit_a_27 := F_limit_a_17.ext E27
  have F_chunk_a_27 := F_chunk_a_17.ext E27
  have F_filled_a_27 := F_filled_a_17.ext E27
  have F_used_a_27 := F_used_a_17.ext E27
  have hO_27 := hO_17.ext E27
  have Z0_27 : n0 ≤ h27.size := Nat.le_trans Z0_17 E27.1
  have EQ9_27 := EQ9_17.ext E27
  have Fm9_27 := Fm9_17.ext E27
  have Fe9_27 := Fe9_17.ext E27
  have Fz9_27 := Fz9_17.ext E27
  have in27 : b27 ∈ [a] ∨ h0.size ≤ b27 := Or.inr (Nat.le_trans K0_17.1 (Nat.le_of_eq g27.symm))
  show own_Ends p e below s ({ frames := 5, cells := 3, slots := 77, locals := 100 } : Room).cells ({ frames := 5, cells := 3, slots := 77, locals := 100 } : Room).slots (Qcb Z a q1 dv h0 n0) T27 (mkF m 29 #[.val (.ref a), .val (.int q1)] [(.ref b27), (.ref a)])
  obtain ⟨T29, h29, X29, e29, W29, st29⟩ := putF X27 hx hZ hown (host := "") (Or.inl (hw _ (List.mem_of_getElem? (i := 61) rfl))) Via.refl e27 F_chunk_a_27 E_a_27 (Or.inl (hw _ (List.mem_of_getElem? (i := 62) rfl))) (hw _ (List.mem_of_getElem? (i := 21) rfl)) (ty := (.array .byte)) (by decide) rfl rfl (g := (mkF m 29 #[.val (.ref a), .val (.int q1)] [(.ref b27), (.ref a)])) rfl rfl (hb hby dcb_29)
  have N29 := Fr.snoc X29 N24 g_a
  have E_a_29 := E_a_27.wr W29
  have K0_29 := K0_27.wr W29 (Or.inl (List.mem_cons_self ..))
  have F_chunks_a_29 := F_chunks_a_27.other W29 (Or.inr (slot_ne (Or.inr (hw _ (List.mem_of_getElem? (i := 53) rfl))) (Or.inl (hw _ (List.mem_of_getElem? (i := 62) rfl))) (by decide) (t := (.object "java/util/List")) (t' := (.array .byte)) (by decide) (by decide)))
  have F_limit_a_29 := F_limit_a_27.other W29 (Or.inr (slot_ne (Or.inr (hw _ (List.mem_of_getElem? (i := 55) rfl))) (Or.inl (hw _ (List.mem_of_getElem? (i := 62) rfl))) (by decide) (t := .int) (t' := (.array .byte)) (by decide) (by decide)))
  have F_chunk_a_29 := F_chunk_a_27.same W29
  have F_filled_a_29 := F_filled_a_27.other W29 (Or.inr (slot_ne (Or.inl (hw _ (List.mem_of_getElem? (i := 119) rfl))) (Or.inl (hw _ (List.mem_of_getElem? (i := 62) rfl))) (by decide) (t := .int) (t' := (.array .byte)) (by decide) (by decide)))
  have F_used_a_29 := F_used_a_27.other W29 (Or.inr (slot_ne (Or.inl (hw _ (List.mem_of_getElem? (i := 121) rfl))) (Or.inl (hw _ (List.mem_of_getElem? (i := 62) rfl))) (by decide) (t := .int) (t' := (.array .byte)) (by decide) (by decide)))
  have hO_29 := hO_27.wr W29 g_a
  have Z0_29 : n0 ≤ h29.size := by rw [W29.size]; exact Z0_27
  have EQ9_29 := EQ9_27.wr W29
  have Fm9_29 := Fm9_27.other W29 (Or.inl (Ne.symm ne_a_b5))
  have Fe9_29 := Fe9_27.other W29 (Or.inl (Ne.symm ne_a_b5))
  have Fz9_29 := Fz9_27.other W29 (Or.inl (Ne.symm ne_a_b5))
  have A27_29 := A27.wr W29
  refine own_go (T' := T29) (mkF m 32 #[.val (.ref a), .val (.int q1)] []) st29 ?_
  refine own_go (mkF m 33 #[.val (.ref a), .val (.int q1)] [(.ref a)]) (fun t k => XS.aloadN X29.here hx rfl (hb hby dcb_32) rfl rfl k) ?_
  obtain ⟨T33, X33, e33, st33⟩ := getF X29 hx hZ hown (host := "") (Or.inl (hw _ (List.mem_of_getElem? (i := 52) rfl))) Via.refl e29 F_chunks_a_29 (g := (mkF m 33 #[.val (.ref a), .val (.int q1)] [(.ref a)])) rfl rfl (hb hby dcb_33)
  refine own_go (T' := T33) (mkF m 36 #[.val (.ref a), .val (.int q1)] [(.ref b5)]) st33 ?_
  refine own_go (mkF m 37 #[.val (.ref a), .val (.int q1)] [(.ref a), (.ref b5)]) (fun t k => XS.aloadN X33.here hx rfl (hb hby dcb_36) rfl rfl k) ?_
  obtain ⟨T37, X37, e37, st37⟩ := getF X33 hx hZ hown (host := "") (Or.inl (hw _ (List.mem_of_getElem? (i := 61) rfl))) Via.refl e33 F_chunk_a_29 (g := (mkF m 37 #[.val (.ref a), .val (.int q1)] [(.ref a), (.ref b5)])) rfl rfl (hb hby dcb_37)
  refine own_go (T' := T37) (mkF m 40 #[.val (.ref a), .val (.int q1)] [(.ref b27), (.ref b5)]) st37 ?_
  have lt40 : (0 : Int32).toInt = 0 := rfl
  refine own_callF X37 hx hZ (xi := (⟨"java/util/List", "add", "(Ljava/lang/Object;)Z"⟩ : MethodName)) (y := (⟨"java/util/ArrayList", "add", "(Ljava/lang/Object;)Z"⟩ : MethodName)) hown (hw _ (List.mem_of_getElem? (i := 63) rfl)) (hw _ (List.mem_of_getElem? (i := 64) rfl)) (mvT hZ (hw _ (List.mem_of_getElem? (i := 65) rfl))) (hw _ (List.mem_of_getElem? (i := 66) rfl)) (hw _ (List.mem_of_getElem? (i := 67) rfl)) (hw _ (List.mem_of_getElem? (i := 68) rfl)) (hw _ (List.mem_of_getElem? (i := 69) rfl)) (hw _ (List.mem_of_getElem? (i := 70) rfl)) (hw _ (List.mem_of_getElem? (i := 30) rfl)) (hw _ (List.mem_of_getElem? (i := 71) rfl)) (by decide) e37 b5 EQ9_29 (rma1 l Z a0 hw [] b5 b27 dv (0 : Int32) (0 : Int32) h29 n0 Z0_29 EQ9_29 Fm9_29 Fe9_29 Fz9_29 gb5 hO_29 S_d A_d A27_29 (by omega)) 0 (by decide) (by decide) (by decide) (by decide) (g := (mkF m 40 #[.val (.ref a), .val (.int q1)] [(.ref b27), (.ref b5)])) rfl (by rw [hml]; rfl) [(.ref b27)] [] (lenOf pdcb_2 rfl) rfl rfl (by show 2 * 0 + _ ≤ _; exact Nat.le_of_eq rfl) (hb hby dcb_40) ?_
  intro rv40 T40 h40 L40 X40 e40 hQ40
  obtain ⟨⟨r40, rfl, -⟩, NQ40, KQ40⟩ := hQ40
  have E_a_40 := E_a_29.keep KQ40
  have K0_40 := K0_29.trans KQ40 (allS in5 all0)
  have F_chunks_a_40 := F_chunks_a_29.keep KQ40 (ninS ne_a_b5 nin0)
  have F_limit_a_40 := F_limit_a_29.keep KQ40 (ninS ne_a_b5 nin0)
  have F_chunk_a_40 := F_chunk_a_29.keep KQ40 (ninS ne_a_b5 nin0)
  have F_filled_a_40 := F_filled_a_29.keep KQ40 (ninS ne_a_b5 nin0)
  have F_used_a_40 := F_used_a_29.keep KQ40 (ninS ne_a_b5 nin0)
  have hO_40 := hO_29.keep KQ40 (allS gb5 all0)
  have Z0_40 : n0 ≤ h40.size := Nat.le_trans Z0_29 KQ40.1
  have EQ9_40 := EQ9_29.keep KQ40
  have A27_40 := A27_29.keep KQ40
  have N40 := Fr.app N29 NQ40
  show own_Ends p e below s ({ frames := 5, cells := 3, slots := 77, locals := 100 } : Room).cells ({ frames := 5, cells := 3, slots := 77, locals := 100 } : Room).slots (Qcb Z a q1 dv h0 n0) T40 (mkF m 45 #[.val (.ref a), .val (.int q1)] [(.int r40)])
  refine own_go (mkF m 46 #[.val (.ref a), .val (.int q1)] []) (fun t k => XS.pop X40.here hx rfl (hb hby dcb_45) rfl rfl k) ?_
  refine own_ret0 X40 hx hlk hret (hb hby dcb_46) (by decide) (by decide) ?_
  rw [e40]
  exact ⟨rfl, N40, K0_40, E_a_40, F_filled_a_40, F_used_a_40⟩
theorem dn2_0 : decode prog_59_method_2_code 0 = .ok (.aload_n 0, 1) := by decide +kernel
theorem dn2_1 : decode prog_59_method_2_code 1 = .ok (.invokespecial 7, 3) := by decide +kernel
theorem dn2_4 : decode prog_59_method_2_code 4 = .ok (.aload_n 0, 1) := by decide +kernel
theorem dn2_5 : decode prog_59_method_2_code 5 = .ok (.ldc 12, 2) := by decide +kernel
theorem dn2_7 : decode prog_59_method_2_code 7 = .ok (.putfield 13, 3) := by decide +kernel
theorem dn2_10 : decode prog_59_method_2_code 10 = .ok (.iload_n 1, 1) := by decide +kernel
theorem dn2_11 : decode prog_59_method_2_code 11 = .ok (.ifCond .ge 17, 3) := by decide +kernel
theorem dn2_28 : decode prog_59_method_2_code 28 = .ok (.aload_n 0, 1) := by decide +kernel
theorem dn2_29 : decode prog_59_method_2_code 29 = .ok (.iload_n 1, 1) := by decide +kernel
theorem dn2_30 : decode prog_59_method_2_code 30 = .ok (.putfield 26, 3) := by decide +kernel
theorem dn2_33 : decode prog_59_method_2_code 33 = .ok (.aload_n 0, 1) := by decide +kernel
theorem dn2_34 : decode prog_59_method_2_code 34 = .ok (.iload_n 2, 1) := by decide +kernel
theorem dn2_35 : decode prog_59_method_2_code 35 = .ok (.putfield 29, 3) := by decide +kernel
theorem dn2_38 : decode prog_59_method_2_code 38 = .ok (.aload_n 0, 1) := by decide +kernel
theorem dn2_39 : decode prog_59_method_2_code 39 = .ok (.new 33, 3) := by decide +kernel
theorem dn2_42 : decode prog_59_method_2_code 42 = .ok (.dup, 1) := by decide +kernel
theorem dn2_43 : decode prog_59_method_2_code 43 = .ok (.ldc 37, 2) := by decide +kernel
theorem dn2_45 : decode prog_59_method_2_code 45 = .ok (.iload_n 1, 1) := by decide +kernel
theorem dn2_46 : decode prog_59_method_2_code 46 = .ok (.isub, 1) := by decide +kernel
theorem dn2_47 : decode prog_59_method_2_code 47 = .ok (.invokespecial 38, 3) := by decide +kernel
theorem dn2_50 : decode prog_59_method_2_code 50 = .ok (.putfield 41, 3) := by decide +kernel
theorem dn2_53 : decode prog_59_method_2_code 53 = .ok (.return_, 1) := by decide +kernel
theorem pdn2_0 : parseMethodDescriptor "(I)V" = some ⟨[.int], none⟩ := by decide +kernel
theorem pfn2 : plainFor (⟨"com/example/dispatchwire/dispatchwire/ndr/NdrWriter", "<init>", "(IZ)V"⟩ : MethodName) = true := by decide +kernel
set_option maxHeartbeats 4000000 in
theorem efn2 (m : MethodId) (a : Addr) (q1 : Int32) : entryFrame m #[(.ref a), (.int q1), (.int (1 : Int32))] 3 = (mkF m 0 #[.val (.ref a), .val (.int q1), .val (.int (1 : Int32))] []) := by first | (simp [entryFrame, mkF, argsToLocals, Value.category, maxLocals]; done) | rfl
def Qn2 (Z : State) (a : Addr) (q1 : Int32) (dv : Addr) (h0 : Heap) (n0 : Nat) (v : Option Value) (h : Heap) (L : List Loc) : Prop := v = none ∧ Fr n0 L ∧ Keep h0 h [a] ∧ ∃ bb, Exa Z h a "com/example/dispatchwire/dispatchwire/ndr/NdrWriter" ∧ Fld Z h a "com/example/dispatchwire/dispatchwire/ndr/NdrWriter" "nextReferentId" "I" (.int (131072 : Int32)) ∧ Fld Z h a "com/example/dispatchwire/dispatchwire/ndr/NdrWriter" "start" "I" (.int q1) ∧ Fld Z h a "com/example/dispatchwire/dispatchwire/ndr/NdrWriter" "buffer" "Lcom/example/dispatchwire/dispatchwire/ndr/NdrWriter$ChunkedBuffer;" (.ref bb) ∧ Exa Z h bb "com/example/dispatchwire/dispatchwire/ndr/NdrWriter$ChunkedBuffer" ∧ Fld Z h bb "com/example/dispatchwire/dispatchwire/ndr/NdrWriter$ChunkedBuffer" "filled" "I" (.int 0) ∧ Fld Z h bb "com/example/dispatchwire/dispatchwire/ndr/NdrWriter$ChunkedBuffer" "used" "I" (.int 0) ∧ n0 ≤ bb ∧ a ≠ bb
set_option maxRecDepth 65536 in
set_option maxHeartbeats 40000000 in
theorem rmn2 (l : Launch) (Z : State) (a0 : Array Value) (hw : ∀ d ∈ tables_1, d.before a0 Z = true) (ws : List Jvm.Cond) (a : Addr) (q1 : Int32) (dv : Addr) (h0 : Heap) (n0 : Nat) (Z0 : n0 ≤ h0.size) (E_a : Exa Z h0 a "com/example/dispatchwire/dispatchwire/ndr/NdrWriter") (F_nextReferentId_a : Fld Z h0 a "com/example/dispatchwire/dispatchwire/ndr/NdrWriter" "nextReferentId" "I" (.int (0 : Int32))) (F_start_a : Fld Z h0 a "com/example/dispatchwire/dispatchwire/ndr/NdrWriter" "start" "I" (.int (0 : Int32))) (F_aligned_a : Fld Z h0 a "com/example/dispatchwire/dispatchwire/ndr/NdrWriter" "aligned" "Z" (.int (0 : Int32))) (F_buffer_a : Fld Z h0 a "com/example/dispatchwire/dispatchwire/ndr/NdrWriter" "buffer" "Lcom/example/dispatchwire/dispatchwire/ndr/NdrWriter$ChunkedBuffer;" (.null)) (g_a : n0 ≤ a) (hO : Old Z n0 h0) (S_d : Sta Z Z.heap "java/util/ArrayList" "DEFAULTCAPACITY_EMPTY_ELEMENTDATA" "[Ljava/lang/Object;" (.ref dv)) (A_d : own_Ae Z Z.heap dv) (hp : 0 ≤ q1.toInt) :
    MetFree l (⟨"com/example/dispatchwire/dispatchwire/ndr/NdrWriter", "<init>", "(IZ)V"⟩ : MethodName) (head1 (Jvm.Cond.code (⟨"com/example/dispatchwire/dispatchwire/ndr/NdrWriter", "<init>", "(IZ)V"⟩ : MethodName) prog_59_method_2_code 3 none :: ws) ({ frames := 6, cells := 4, slots := 82, locals := 120 } : Room)) (fun aa U => aa = #[(.ref a), (.int q1), (.int (1 : Int32))] ∧ Z.Warmed39 U.vm ∧ U.heap = h0) (fun _ _ _ _ _ => True) (fun _ U o U' => ∃ v L, o = .returned v ∧ Qn2 Z a q1 dv h0 n0 v U'.heap L ∧ FrameEnd U o U' L ({ frames := 6, cells := 4, slots := 82, locals := 120 } : Room).cells ({ frames := 6, cells := 4, slots := 82, locals := 120 } : Room).slots) := by
  refine own_met pfn2 ?_
  intro p e s m below meth c T0 hx hby hml hown hret hlk hnm hZ X0 e0
  have N0 := Fr.nil n0
  have K0 := Keep.refl h0 [a]
  have r_q1 := rng32 q1
  rw [efn2]
  refine own_go (mkF m 1 #[.val (.ref a), .val (.int q1), .val (.int (1 : Int32))] [(.ref a)]) (fun t k => XS.aloadN X0.here hx rfl (hb hby dn2_0) rfl rfl k) ?_
  obtain ⟨T1, X1, e1, st1⟩ := initO X0 hx hZ hown (hw _ (List.mem_of_getElem? (i := 10) rfl)) (hw _ (List.mem_of_getElem? (i := 11) rfl)) (hw _ (List.mem_of_getElem? (i := 12) rfl)) e0 (g := (mkF m 1 #[.val (.ref a), .val (.int q1), .val (.int (1 : Int32))] [(.ref a)])) rfl (by rw [hml]; rfl) rfl (hb hby dn2_1) (by decide) (W := 0) (by show 2 * 0 + _ ≤ _; exact Nat.le_of_eq rfl) (by decide)
  refine own_go (T' := T1) (mkF m 4 #[.val (.ref a), .val (.int q1), .val (.int (1 : Int32))] []) st1 ?_
  refine own_go (mkF m 5 #[.val (.ref a), .val (.int q1), .val (.int (1 : Int32))] [(.ref a)]) (fun t k => XS.aloadN X1.here hx rfl (hb hby dn2_4) rfl rfl k) ?_
  refine own_go (mkF m 7 #[.val (.ref a), .val (.int q1), .val (.int (1 : Int32))] [(.int (131072 : Int32)), (.ref a)]) (fun t k => X1.ldcInt hx hown (mvT hZ (hw _ (List.mem_of_getElem? (i := 13) rfl))) (g := (mkF m 5 #[.val (.ref a), .val (.int q1), .val (.int (1 : Int32))] [(.ref a)])) rfl (hb hby dn2_5) _ k) ?_
  obtain ⟨T7, h7, X7, e7, W7, st7⟩ := putF X1 hx hZ hown (host := "") (Or.inl (hw _ (List.mem_of_getElem? (i := 14) rfl))) Via.refl e1 F_nextReferentId_a E_a (Or.inl (hw _ (List.mem_of_getElem? (i := 15) rfl))) (hw _ (List.mem_of_getElem? (i := 2) rfl)) (ty := .int) (by decide) rfl rfl (g := (mkF m 7 #[.val (.ref a), .val (.int q1), .val (.int (1 : Int32))] [(.int (131072 : Int32)), (.ref a)])) rfl rfl (hb hby dn2_7)
  have N7 := Fr.snoc X7 N0 g_a
  have E_a_7 := E_a.wr W7
  have K0_7 := K0.wr W7 (Or.inl (List.mem_cons_self ..))
  have F_nextReferentId_a_7 := F_nextReferentId_a.same W7
  have F_start_a_7 := F_start_a.other W7 (Or.inr (slot_ne (Or.inr (hw _ (List.mem_of_getElem? (i := 17) rfl))) (Or.inl (hw _ (List.mem_of_getElem? (i := 15) rfl))) (by decide) (t := .int) (t' := .int) (by decide) (by decide)))
  have F_aligned_a_7 := F_aligned_a.other W7 (Or.inr (slot_ne (Or.inr (hw _ (List.mem_of_getElem? (i := 19) rfl))) (Or.inl (hw _ (List.mem_of_getElem? (i := 15) rfl))) (by decide) (t := .boolean) (t' := .int) (by decide) (by decide)))
  have F_buffer_a_7 := F_buffer_a.other W7 (Or.inr (slot_ne (Or.inr (hw _ (List.mem_of_getElem? (i := 98) rfl))) (Or.inl (hw _ (List.mem_of_getElem? (i := 15) rfl))) (by decide) (t := (.object "com/example/dispatchwire/dispatchwire/ndr/NdrWriter$ChunkedBuffer")) (t' := .int) (by decide) (by decide)))
  have hO_7 := hO.wr W7 g_a
  have Z0_7 : n0 ≤ h7.size := by rw [W7.size]; exact Z0
  refine own_go (T' := T7) (mkF m 10 #[.val (.ref a), .val (.int q1), .val (.int (1 : Int32))] []) st7 ?_
  refine own_go (mkF m 11 #[.val (.ref a), .val (.int q1), .val (.int (1 : Int32))] [(.int q1)]) (fun t k => XS.iloadN X7.here hx rfl (hb hby dn2_10) rfl k) ?_
  have c11 : 0 ≤ q1.toInt := by omega
  refine own_go (mkF m 28 #[.val (.ref a), .val (.int q1), .val (.int (1 : Int32))] []) (fun t k => XS.ifYes X7.here hx rfl (pc0 := 11) (pc' := 28) rfl (hb hby dn2_11) rfl (own_zT (cd := .ge) c11) (by decide) (by decide) k) ?_
  refine own_go (mkF m 29 #[.val (.ref a), .val (.int q1), .val (.int (1 : Int32))] [(.ref a)]) (fun t k => XS.aloadN X7.here hx rfl (hb hby dn2_28) rfl rfl k) ?_
  refine own_go (mkF m 30 #[.val (.ref a), .val (.int q1), .val (.int (1 : Int32))] [(.int q1), (.ref a)]) (fun t k => XS.iloadN X7.here hx rfl (hb hby dn2_29) rfl k) ?_
  obtain ⟨T30, h30, X30, e30, W30, st30⟩ := putF X7 hx hZ hown (host := "") (Or.inl (hw _ (List.mem_of_getElem? (i := 16) rfl))) Via.refl e7 F_start_a_7 E_a_7 (Or.inr ⟨(hw _ (List.mem_of_getElem? (i := 17) rfl)), rfl, hnm⟩) (hw _ (List.mem_of_getElem? (i := 2) rfl)) (ty := .int) (by decide) rfl rfl (g := (mkF m 30 #[.val (.ref a), .val (.int q1), .val (.int (1 : Int32))] [(.int q1), (.ref a)])) rfl rfl (hb hby dn2_30)
  have N30 := Fr.snoc X30 N7 g_a
  have E_a_30 := E_a_7.wr W30
  have K0_30 := K0_7.wr W30 (Or.inl (List.mem_cons_self ..))
  have F_nextReferentId_a_30 := F_nextReferentId_a_7.other W30 (Or.inr (slot_ne (Or.inl (hw _ (List.mem_of_getElem? (i := 15) rfl))) (Or.inr (hw _ (List.mem_of_getElem? (i := 17) rfl))) (by decide) (t := .int) (t' := .int) (by decide) (by decide)))
  have F_start_a_30 := F_start_a_7.same W30
  have F_aligned_a_30 := F_aligned_a_7.other W30 (Or.inr (slot_ne (Or.inr (hw _ (List.mem_of_getElem? (i := 19) rfl))) (Or.inr (hw _ (List.mem_of_getElem? (i := 17) rfl))) (by decide) (t := .boolean) (t' := .int) (by decide) (by decide)))
  have F_buffer_a_30 := F_buffer_a_7.other W30 (Or.inr (slot_ne (Or.inr (hw _ (List.mem_of_getElem? (i := 98) rfl))) (Or.inr (hw _ (List.mem_of_getElem? (i := 17) rfl))) (by decide) (t := (.object "com/example/dispatchwire/dispatchwire/ndr/NdrWriter$ChunkedBuffer")) (t' := .int) (by decide) (by decide)))
  have hO_30 := hO_7.wr W30 g_a
  have Z0_30 : n0 ≤ h30.size := by rw [W30.size]; exact Z0_7
  refine own_go (T' := T30) (mkF m 33 #[.val (.ref a), .val (.int q1), .val (.int (1 : Int32))] []) st30 ?_
  refine own_go (mkF m 34 #[.val (.ref a), .val (.int q1), .val (.int (1 : Int32))] [(.ref a)]) (fun t k => XS.aloadN X30.here hx rfl (hb hby dn2_33) rfl rfl k) ?_
  refine own_go (mkF m 35 #[.val (.ref a), .val (.int q1), .val (.int (1 : Int32))] [(.int (1 : Int32)), (.ref a)]) (fun t k => XS.iloadN X30.here hx rfl (hb hby dn2_34) rfl k) ?_
  obtain ⟨T35, h35, X35, e35, W35, st35⟩ := putFN X30 hx hZ hown (hw _ (List.mem_of_getElem? (i := 18) rfl)) Via.refl e30 F_aligned_a_30 E_a_30 (Or.inr ⟨(hw _ (List.mem_of_getElem? (i := 19) rfl)), rfl, hnm⟩) (hw _ (List.mem_of_getElem? (i := 2) rfl)) (ty := .boolean) (v' := .int (1 : Int32)) (by decide) rfl rfl (g := (mkF m 35 #[.val (.ref a), .val (.int q1), .val (.int (1 : Int32))] [(.int (1 : Int32)), (.ref a)])) rfl rfl (hb hby dn2_35)
  have N35 := Fr.snoc X35 N30 g_a
  have E_a_35 := E_a_30.wr W35
  have K0_35 := K0_30.wr W35 (Or.inl (List.mem_cons_self ..))
  have F_nextReferentId_a_35 := F_nextReferentId_a_30.other W35 (Or.inr (slot_ne (Or.inl (hw _ (List.mem_of_getElem? (i := 15) rfl))) (Or.inr (hw _ (List.mem_of_getElem? (i := 19) rfl))) (by decide) (t := .int) (t' := .boolean) (by decide) (by decide)))
  have F_start_a_35 := F_start_a_30.other W35 (Or.inr (slot_ne (Or.inr (hw _ (List.mem_of_getElem? (i := 17) rfl))) (Or.inr (hw _ (List.mem_of_getElem? (i := 19) rfl))) (by decide) (t := .int) (t' := .boolean) (by decide) (by decide)))
  have F_aligned_a_35 := F_aligned_a_30.same W35
  have F_buffer_a_35 := F_buffer_a_30.other W35 (Or.inr (slot_ne (Or.inr (hw _ (List.mem_of_getElem? (i := 98) rfl))) (Or.inr (hw _ (List.mem_of_getElem? (i := 19) rfl))) (by decide) (t := (.object "com/example/dispatchwire/dispatchwire/ndr/NdrWriter$ChunkedBuffer")) (t' := .boolean) (by decide) (by decide)))
  have hO_35 := hO_30.wr W35 g_a
  have Z0_35 : n0 ≤ h35.size := by rw [W35.size]; exact Z0_30
  refine own_go (T' := T35) (mkF m 38 #[.val (.ref a), .val (.int q1), .val (.int (1 : Int32))] []) st35 ?_
  refine own_go (mkF m 39 #[.val (.ref a), .val (.int q1), .val (.int (1 : Int32))] [(.ref a)]) (fun t k => XS.aloadN X35.here hx rfl (hb hby dn2_38) rfl rfl k) ?_
  obtain ⟨T39, h39, X39, e39, E39, A39, D39, -, st39⟩ := newO X35 hx hZ hown (hw _ (List.mem_of_getElem? (i := 20) rfl)) (hw _ (List.mem_of_getElem? (i := 21) rfl)) (hw _ (List.mem_of_getElem? (i := 22) rfl)) e35 (g := (mkF m 39 #[.val (.ref a), .val (.int q1), .val (.int (1 : Int32))] [(.ref a)])) rfl (hb hby dn2_39) (by decide) (by decide)
  obtain ⟨b39, g39⟩ : ∃ z, z = h35.size := ⟨_, rfl⟩
  rw [← g39] at A39 D39 st39
  have gb39 : n0 ≤ b39 := Nat.le_trans Z0_35 (Nat.le_of_eq g39.symm)
  have ne_a_b39 : a ≠ b39 := fun q => Nat.lt_irrefl h35.size (by have := E_a_35.lt; rw [q, g39] at this; exact this)
  have E_a_39 := E_a_35.ext E39
  have K0_39 := K0_35.ext E39
  have F_nextReferentId_a_39 := F_nextReferentId_a_35.ext E39
  have F_start_a_39 := F_start_a_35.ext E39
  have F_aligned_a_39 := F_aligned_a_35.ext E39
  have F_buffer_a_39 := F_buffer_a_35.ext E39
  have hO_39 := hO_35.ext E39
  have Z0_39 : n0 ≤ h39.size := Nat.le_trans Z0_35 E39.1
  have in39 : b39 ∈ [a] ∨ h0.size ≤ b39 := Or.inr (Nat.le_trans K0_35.1 (Nat.le_of_eq g39.symm))
  have F_chunks_b39 : Fld Z h39 b39 "com/example/dispatchwire/dispatchwire/ndr/NdrWriter$ChunkedBuffer" "chunks" "Ljava/util/List;" (.null) := D39 (Or.inr (hw _ (List.mem_of_getElem? (i := 53) rfl))) (ty := (.object "java/util/List")) (by decide)
  have F_limit_b39 : Fld Z h39 b39 "com/example/dispatchwire/dispatchwire/ndr/NdrWriter$ChunkedBuffer" "limit" "I" (.int (0 : Int32)) := D39 (Or.inr (hw _ (List.mem_of_getElem? (i := 55) rfl))) (ty := .int) (by decide)
  have F_chunk_b39 : Fld Z h39 b39 "com/example/dispatchwire/dispatchwire/ndr/NdrWriter$ChunkedBuffer" "chunk" "[B" (.null) := D39 (Or.inl (hw _ (List.mem_of_getElem? (i := 62) rfl))) (ty := (.array .byte)) (by decide)
  have F_filled_b39 : Fld Z h39 b39 "com/example/dispatchwire/dispatchwire/ndr/NdrWriter$ChunkedBuffer" "filled" "I" (.int (0 : Int32)) := D39 (Or.inl (hw _ (List.mem_of_getElem? (i := 119) rfl))) (ty := .int) (by decide)
  have F_used_b39 : Fld Z h39 b39 "com/example/dispatchwire/dispatchwire/ndr/NdrWriter$ChunkedBuffer" "used" "I" (.int (0 : Int32)) := D39 (Or.inl (hw _ (List.mem_of_getElem? (i := 121) rfl))) (ty := .int) (by decide)
  refine own_go (T' := T39) (mkF m 42 #[.val (.ref a), .val (.int q1), .val (.int (1 : Int32))] [(.ref b39), (.ref a)]) st39 ?_
  refine own_go (mkF m 43 #[.val (.ref a), .val (.int q1), .val (.int (1 : Int32))] [(.ref b39), (.ref b39), (.ref a)]) (fun t k => XS.dup X39.here hx rfl (hb hby dn2_42) rfl rfl k) ?_
  refine own_go (mkF m 45 #[.val (.ref a), .val (.int q1), .val (.int (1 : Int32))] [(.int (2147483647 : Int32)), (.ref b39), (.ref b39), (.ref a)]) (fun t k => X39.ldcInt hx hown (mvT hZ (hw _ (List.mem_of_getElem? (i := 23) rfl))) (g := (mkF m 43 #[.val (.ref a), .val (.int q1), .val (.int (1 : Int32))] [(.ref b39), (.ref b39), (.ref a)])) rfl (hb hby dn2_43) _ k) ?_
  refine own_go (mkF m 46 #[.val (.ref a), .val (.int q1), .val (.int (1 : Int32))] [(.int q1), (.int (2147483647 : Int32)), (.ref b39), (.ref b39), (.ref a)]) (fun t k => XS.iloadN X39.here hx rfl (hb hby dn2_45) rfl k) ?_
  refine own_go (mkF m 47 #[.val (.ref a), .val (.int q1), .val (.int (1 : Int32))] [(.int ((2147483647 : Int32) - q1)), (.ref b39), (.ref b39), (.ref a)]) (fun t k => XS.isub X39.here hx rfl (hb hby dn2_46) rfl k) ?_
  generalize hv46 : ((2147483647 : Int32) - q1) = v46
  have f46 : (v46.toInt - (2147483647 - q1.toInt)) % 4294967296 = 0 := by rw [← hv46]; exact c_isub (2147483647 : Int32) q1
  have r46 := rng32 v46
  refine own_callI X39 hx hZ (y := (⟨"com/example/dispatchwire/dispatchwire/ndr/NdrWriter$ChunkedBuffer", "<init>", "(I)V"⟩ : MethodName)) hown rfl (hw _ (List.mem_of_getElem? (i := 24) rfl)) (hw _ (List.mem_of_getElem? (i := 25) rfl)) (hw _ (List.mem_of_getElem? (i := 22) rfl)) (hw _ (List.mem_of_getElem? (i := 26) rfl)) (by decide) e39 (rmcb l Z a0 hw [] b39 v46 dv h39 n0 Z0_39 A39 F_chunks_b39 F_limit_b39 F_chunk_b39 F_filled_b39 F_used_b39 gb39 hO_39 S_d A_d (by omega)) 2 (by decide) (by decide) (by decide) (by decide) (g := (mkF m 47 #[.val (.ref a), .val (.int q1), .val (.int (1 : Int32))] [(.int v46), (.ref b39), (.ref b39), (.ref a)])) rfl (by rw [hml]; rfl) b39 [(.int v46)] [(.ref b39), (.ref a)] (lenOf pdn2_0 rfl) rfl rfl (by show 2 * 0 + _ ≤ _; exact Nat.le_of_eq rfl) (hb hby dn2_47) ?_
  intro rv47 T47 h47 L47 X47 e47 hQ47
  obtain ⟨rfl, NQ47, KQ47, EQ47, Ff47, Fu47⟩ := hQ47
  have E_a_47 := E_a_39.keep KQ47
  have K0_47 := K0_39.trans KQ47 (allS in39 all0)
  have F_nextReferentId_a_47 := F_nextReferentId_a_39.keep KQ47 (ninS ne_a_b39 nin0)
  have F_start_a_47 := F_start_a_39.keep KQ47 (ninS ne_a_b39 nin0)
  have F_aligned_a_47 := F_aligned_a_39.keep KQ47 (ninS ne_a_b39 nin0)
  have F_buffer_a_47 := F_buffer_a_39.keep KQ47 (ninS ne_a_b39 nin0)
  have hO_47 := hO_39.keep KQ47 (allS gb39 all0)
  have Z0_47 : n0 ≤ h47.size := Nat.le_trans Z0_39 KQ47.1
  have A39_47 := A39.keep KQ47
  have N47 := Fr.app N35 NQ47
  show own_Ends p e below s ({ frames := 6, cells := 4, slots := 82, locals := 120 } : Room).cells ({ frames := 6, cells := 4, slots := 82, locals := 120 } : Room).slots (Qn2 Z a q1 dv h0 n0) T47 (mkF m 50 #[.val (.ref a), .val (.int q1), .val (.int (1 : Int32))] [(.ref b39), (.ref a)])
  obtain ⟨T50, h50, X50, e50, W50, st50⟩ := putF X47 hx hZ hown (host := "") (Or.inl (hw _ (List.mem_of_getElem? (i := 97) rfl))) Via.refl e47 F_buffer_a_47 E_a_47 (Or.inr ⟨(hw _ (List.mem_of_getElem? (i := 98) rfl)), rfl, hnm⟩) (hw _ (List.mem_of_getElem? (i := 2) rfl)) (ty := (.object "com/example/dispatchwire/dispatchwire/ndr/NdrWriter$ChunkedBuffer")) (by decide) rfl rfl (g := (mkF m 50 #[.val (.ref a), .val (.int q1), .val (.int (1 : Int32))] [(.ref b39), (.ref a)])) rfl rfl (hb hby dn2_50)
  have N50 := Fr.snoc X50 N47 g_a
  have E_a_50 := E_a_47.wr W50
  have K0_50 := K0_47.wr W50 (Or.inl (List.mem_cons_self ..))
  have F_nextReferentId_a_50 := F_nextReferentId_a_47.other W50 (Or.inr (slot_ne (Or.inl (hw _ (List.mem_of_getElem? (i := 15) rfl))) (Or.inr (hw _ (List.mem_of_getElem? (i := 98) rfl))) (by decide) (t := .int) (t' := (.object "com/example/dispatchwire/dispatchwire/ndr/NdrWriter$ChunkedBuffer")) (by decide) (by decide)))
  have F_start_a_50 := F_start_a_47.other W50 (Or.inr (slot_ne (Or.inr (hw _ (List.mem_of_getElem? (i := 17) rfl))) (Or.inr (hw _ (List.mem_of_getElem? (i := 98) rfl))) (by decide) (t := .int) (t' := (.object "com/example/dispatchwire/dispatchwire/ndr/NdrWriter$ChunkedBuffer")) (by decide) (by decide)))
  have F_aligned_a_50 := F_aligned_a_47.other W50 (Or.inr (slot_ne (Or.inr (hw _ (List.mem_of_getElem? (i := 19) rfl))) (Or.inr (hw _ (List.mem_of_getElem? (i := 98) rfl))) (by decide) (t := .boolean) (t' := (.object "com/example/dispatchwire/dispatchwire/ndr/NdrWriter$ChunkedBuffer")) (by decide) (by decide)))
  have F_buffer_a_50 := F_buffer_a_47.same W50
  have hO_50 := hO_47.wr W50 g_a
  have Z0_50 : n0 ≤ h50.size := by rw [W50.size]; exact Z0_47
  have EQ47_50 := EQ47.wr W50
  have Ff47_50 := Ff47.other W50 (Or.inl (Ne.symm ne_a_b39))
  have Fu47_50 := Fu47.other W50 (Or.inl (Ne.symm ne_a_b39))
  refine own_go (T' := T50) (mkF m 53 #[.val (.ref a), .val (.int q1), .val (.int (1 : Int32))] []) st50 ?_
  refine own_ret0 X50 hx hlk hret (hb hby dn2_53) (by decide) (by decide) ?_
  rw [e50]
  exact ⟨rfl, N50, K0_50, _, E_a_50, F_nextReferentId_a_50, F_start_a_50, F_buffer_a_50, EQ47_50, Ff47_50, Fu47_50, gb39, ne_a_b39⟩
theorem dn1_0 : decode prog_59_method_1_code 0 = .ok (.aload_n 0, 1) := by decide +kernel
theorem dn1_1 : decode prog_59_method_1_code 1 = .ok (.iload_n 1, 1) := by decide +kernel
theorem dn1_2 : decode prog_59_method_1_code 2 = .ok (.iconst 1, 1) := by decide +kernel
theorem dn1_3 : decode prog_59_method_1_code 3 = .ok (.invokespecial 1, 3) := by decide +kernel
theorem dn1_6 : decode prog_59_method_1_code 6 = .ok (.return_, 1) := by decide +kernel
theorem pdn1_0 : parseMethodDescriptor "(IZ)V" = some ⟨[.int, .boolean], none⟩ := by decide +kernel
theorem pfn1 : plainFor (⟨"com/example/dispatchwire/dispatchwire/ndr/NdrWriter", "<init>", "(I)V"⟩ : MethodName) = true := by decide +kernel
set_option maxHeartbeats 4000000 in
theorem efn1 (m : MethodId) (a : Addr) (q1 : Int32) : entryFrame m #[(.ref a), (.int q1)] 2 = (mkF m 0 #[.val (.ref a), .val (.int q1)] []) := by first | (simp [entryFrame, mkF, argsToLocals, Value.category, maxLocals]; done) | rfl
def Qn1 (Z : State) (a : Addr) (q1 : Int32) (dv : Addr) (h0 : Heap) (n0 : Nat) (v : Option Value) (h : Heap) (L : List Loc) : Prop := v = none ∧ Fr n0 L ∧ Keep h0 h [a] ∧ ∃ bb, Exa Z h a "com/example/dispatchwire/dispatchwire/ndr/NdrWriter" ∧ Fld Z h a "com/example/dispatchwire/dispatchwire/ndr/NdrWriter" "nextReferentId" "I" (.int (131072 : Int32)) ∧ Fld Z h a "com/example/dispatchwire/dispatchwire/ndr/NdrWriter" "start" "I" (.int q1) ∧ Fld Z h a "com/example/dispatchwire/dispatchwire/ndr/NdrWriter" "buffer" "Lcom/example/dispatchwire/dispatchwire/ndr/NdrWriter$ChunkedBuffer;" (.ref bb) ∧ Exa Z h bb "com/example/dispatchwire/dispatchwire/ndr/NdrWriter$ChunkedBuffer" ∧ Fld Z h bb "com/example/dispatchwire/dispatchwire/ndr/NdrWriter$ChunkedBuffer" "filled" "I" (.int 0) ∧ Fld Z h bb "com/example/dispatchwire/dispatchwire/ndr/NdrWriter$ChunkedBuffer" "used" "I" (.int 0) ∧ n0 ≤ bb ∧ a ≠ bb
set_option maxRecDepth 65536 in
set_option maxHeartbeats 40000000 in
theorem rmn1 (l : Launch) (Z : State) (a0 : Array Value) (hw : ∀ d ∈ tables_1, d.before a0 Z = true) (ws : List Jvm.Cond) (a : Addr) (q1 : Int32) (dv : Addr) (h0 : Heap) (n0 : Nat) (Z0 : n0 ≤ h0.size) (E_a : Exa Z h0 a "com/example/dispatchwire/dispatchwire/ndr/NdrWriter") (F_nextReferentId_a : Fld Z h0 a "com/example/dispatchwire/dispatchwire/ndr/NdrWriter" "nextReferentId" "I" (.int (0 : Int32))) (F_start_a : Fld Z h0 a "com/example/dispatchwire/dispatchwire/ndr/NdrWriter" "start" "I" (.int (0 : Int32))) (F_aligned_a : Fld Z h0 a "com/example/dispatchwire/dispatchwire/ndr/NdrWriter" "aligned" "Z" (.int (0 : Int32))) (F_buffer_a : Fld Z h0 a "com/example/dispatchwire/dispatchwire/ndr/NdrWriter" "buffer" "Lcom/example/dispatchwire/dispatchwire/ndr/NdrWriter$ChunkedBuffer;" (.null)) (g_a : n0 ≤ a) (hO : Old Z n0 h0) (S_d : Sta Z Z.heap "java/util/ArrayList" "DEFAULTCAPACITY_EMPTY_ELEMENTDATA" "[Ljava/lang/Object;" (.ref dv)) (A_d : own_Ae Z Z.heap dv) (hp : 0 ≤ q1.toInt) :
    MetFree l (⟨"com/example/dispatchwire/dispatchwire/ndr/NdrWriter", "<init>", "(I)V"⟩ : MethodName) (head1 (Jvm.Cond.code (⟨"com/example/dispatchwire/dispatchwire/ndr/NdrWriter", "<init>", "(I)V"⟩ : MethodName) prog_59_method_1_code 2 none :: ws) ({ frames := 7, cells := 4, slots := 82, locals := 140 } : Room)) (fun aa U => aa = #[(.ref a), (.int q1)] ∧ Z.Warmed39 U.vm ∧ U.heap = h0) (fun _ _ _ _ _ => True) (fun _ U o U' => ∃ v L, o = .returned v ∧ Qn1 Z a q1 dv h0 n0 v U'.heap L ∧ FrameEnd U o U' L ({ frames := 7, cells := 4, slots := 82, locals := 140 } : Room).cells ({ frames := 7, cells := 4, slots := 82, locals := 140 } : Room).slots) := by
  refine own_met pfn1 ?_
  intro p e s m below meth c T0 hx hby hml hown hret hlk hnm hZ X0 e0
  have N0 := Fr.nil n0
  have K0 := Keep.refl h0 [a]
  have r_q1 := rng32 q1
  rw [efn1]
  refine own_go (mkF m 1 #[.val (.ref a), .val (.int q1)] [(.ref a)]) (fun t k => XS.aloadN X0.here hx rfl (hb hby dn1_0) rfl rfl k) ?_
  refine own_go (mkF m 2 #[.val (.ref a), .val (.int q1)] [(.int q1), (.ref a)]) (fun t k => XS.iloadN X0.here hx rfl (hb hby dn1_1) rfl k) ?_
  refine own_go (mkF m 3 #[.val (.ref a), .val (.int q1)] [(.int (1 : Int32)), (.int q1), (.ref a)]) (fun t k => XS.iconst X0.here hx rfl (hb hby dn1_2) k) ?_
  have lt3_1 : (1 : Int32).toInt = 1 := rfl
  refine own_callI X0 hx hZ (y := (⟨"com/example/dispatchwire/dispatchwire/ndr/NdrWriter", "<init>", "(IZ)V"⟩ : MethodName)) hown rfl (hw _ (List.mem_of_getElem? (i := 7) rfl)) (hw _ (List.mem_of_getElem? (i := 8) rfl)) (hw _ (List.mem_of_getElem? (i := 3) rfl)) (hw _ (List.mem_of_getElem? (i := 9) rfl)) (by decide) e0 (rmn2 l Z a0 hw [] a q1 dv h0 n0 Z0 E_a F_nextReferentId_a F_start_a F_aligned_a F_buffer_a g_a hO S_d A_d (by omega)) 0 (by decide) (by decide) (by decide) (by decide) (g := (mkF m 3 #[.val (.ref a), .val (.int q1)] [(.int (1 : Int32)), (.int q1), (.ref a)])) rfl (by rw [hml]; rfl) a [(.int q1), (.int (1 : Int32))] [] (lenOf pdn1_0 rfl) rfl rfl (by show 2 * 0 + _ ≤ _; exact Nat.le_of_eq rfl) (hb hby dn1_3) ?_
  intro rv3 T3 h3 L3 X3 e3 hQ3
  obtain ⟨rfl, NQ3, KQ3, bb3, EQ3, Fn3, Fs3, Fb3, EB3, Ff3, Fu3, gb3, nb3⟩ := hQ3
  have E_a_3 := E_a.keep KQ3
  have K0_3 := K0.trans KQ3 (allS (Or.inl (List.mem_cons_self ..)) all0)
  have hO_3 := hO.keep KQ3 (allS g_a all0)
  have Z0_3 : n0 ≤ h3.size := Nat.le_trans Z0 KQ3.1
  have N3 := Fr.app N0 NQ3
  show own_Ends p e below s ({ frames := 7, cells := 4, slots := 82, locals := 140 } : Room).cells ({ frames := 7, cells := 4, slots := 82, locals := 140 } : Room).slots (Qn1 Z a q1 dv h0 n0) T3 (mkF m 6 #[.val (.ref a), .val (.int q1)] [])
  refine own_ret0 X3 hx hlk hret (hb hby dn1_6) (by decide) (by decide) ?_
  rw [e3]
  exact ⟨rfl, N3, K0_3, _, EQ3, Fn3, Fs3, Fb3, EB3, Ff3, Fu3, gb3, nb3⟩
theorem dnx_0 : decode prog_59_method_21_code 0 = .ok (.aload_n 0, 1) := by decide +kernel
theorem dnx_1 : decode prog_59_method_21_code 1 = .ok (.getfield 13, 3) := by decide +kernel
theorem dnx_4 : decode prog_59_method_21_code 4 = .ok (.istore_n 1, 1) := by decide +kernel
theorem dnx_5 : decode prog_59_method_21_code 5 = .ok (.aload_n 0, 1) := by decide +kernel
theorem dnx_6 : decode prog_59_method_21_code 6 = .ok (.dup, 1) := by decide +kernel
theorem dnx_7 : decode prog_59_method_21_code 7 = .ok (.getfield 13, 3) := by decide +kernel
theorem dnx_10 : decode prog_59_method_21_code 10 = .ok (.iconst 4, 1) := by decide +kernel
theorem dnx_11 : decode prog_59_method_21_code 11 = .ok (.iadd, 1) := by decide +kernel
theorem dnx_12 : decode prog_59_method_21_code 12 = .ok (.putfield 13, 3) := by decide +kernel
theorem dnx_15 : decode prog_59_method_21_code 15 = .ok (.iload_n 1, 1) := by decide +kernel
theorem dnx_16 : decode prog_59_method_21_code 16 = .ok (.ireturn, 1) := by decide +kernel
theorem pfnx : plainFor (⟨"com/example/dispatchwire/dispatchwire/ndr/NdrWriter", "nextReferentId", "()I"⟩ : MethodName) = true := by decide +kernel
set_option maxHeartbeats 4000000 in
theorem efnx (m : MethodId) (a : Addr) : entryFrame m #[(.ref a)] 2 = (mkF m 0 #[.val (.ref a), .unset] []) := by first | (simp [entryFrame, mkF, argsToLocals, Value.category, maxLocals]; done) | rfl
def Qnx (Z : State) (a : Addr) (w1 : Int32) (w2 : Int32) (bb : Addr) (h0 : Heap) (n0 : Nat) (v : Option Value) (h : Heap) (L : List Loc) : Prop := (∃ r : Int32, v = some (.int r) ∧ r = w1) ∧ Fr n0 L ∧ Keep h0 h [a] ∧ ∃ w', Exa Z h a "com/example/dispatchwire/dispatchwire/ndr/NdrWriter" ∧ Fld Z h a "com/example/dispatchwire/dispatchwire/ndr/NdrWriter" "nextReferentId" "I" (.int w') ∧ Fld Z h a "com/example/dispatchwire/dispatchwire/ndr/NdrWriter" "start" "I" (.int w2) ∧ Fld Z h a "com/example/dispatchwire/dispatchwire/ndr/NdrWriter" "buffer" "Lcom/example/dispatchwire/dispatchwire/ndr/NdrWriter$ChunkedBuffer;" (.ref bb) ∧ w' = w1 + 4
set_option maxRecDepth 65536 in
set_option maxHeartbeats 40000000 in
theorem rmnx (l : Launch) (Z : State) (a0 : Array Value) (hw : ∀ d ∈ tables_1, d.before a0 Z = true) (ws : List Jvm.Cond) (a : Addr) (w1 : Int32) (w2 : Int32) (bb : Addr) (h0 : Heap) (n0 : Nat) (Z0 : n0 ≤ h0.size) (E_a : Exa Z h0 a "com/example/dispatchwire/dispatchwire/ndr/NdrWriter") (F_nextReferentId_a : Fld Z h0 a "com/example/dispatchwire/dispatchwire/ndr/NdrWriter" "nextReferentId" "I" (.int w1)) (F_start_a : Fld Z h0 a "com/example/dispatchwire/dispatchwire/ndr/NdrWriter" "start" "I" (.int w2)) (F_buffer_a : Fld Z h0 a "com/example/dispatchwire/dispatchwire/ndr/NdrWriter" "buffer" "Lcom/example/dispatchwire/dispatchwire/ndr/NdrWriter$ChunkedBuffer;" (.ref bb)) (g_a : n0 ≤ a) :
    MetFree l (⟨"com/example/dispatchwire/dispatchwire/ndr/NdrWriter", "nextReferentId", "()I"⟩ : MethodName) (head1 (Jvm.Cond.code (⟨"com/example/dispatchwire/dispatchwire/ndr/NdrWriter", "nextReferentId", "()I"⟩ : MethodName) prog_59_method_21_code 2 (some Jvm.ClassFile.FieldType.int) :: ws) ({ frames := 0, cells := 0, slots := 0, locals := 0 } : Room)) (fun aa U => aa = #[(.ref a)] ∧ Z.Warmed39 U.vm ∧ U.heap = h0) (fun _ _ _ _ _ => True) (fun _ U o U' => ∃ v L, o = .returned v ∧ Qnx Z a w1 w2 bb h0 n0 v U'.heap L ∧ FrameEnd U o U' L ({ frames := 0, cells := 0, slots := 0, locals := 0 } : Room).cells ({ frames := 0, cells := 0, slots := 0, locals := 0 } : Room).slots) := by
  refine own_met pfnx ?_
  intro p e s m below meth c T0 hx hby hml hown hret hlk hnm hZ X0 e0
  have N0 := Fr.nil n0
  have K0 := Keep.refl h0 [a]
  rw [efnx]
  refine own_go (mkF m 1 #[.val (.ref a), .unset] [(.ref a)]) (fun t k => XS.aloadN X0.here hx rfl (hb hby dnx_0) rfl rfl k) ?_
  obtain ⟨T1, X1, e1, st1⟩ := getF X0 hx hZ hown (host := "") (Or.inl (hw _ (List.mem_of_getElem? (i := 14) rfl))) Via.refl e0 F_nextReferentId_a (g := (mkF m 1 #[.val (.ref a), .unset] [(.ref a)])) rfl rfl (hb hby dnx_1)
  refine own_go (T' := T1) (mkF m 4 #[.val (.ref a), .unset] [(.int w1)]) st1 ?_
  refine own_go (mkF m 5 #[.val (.ref a), .val (.int w1)] []) (fun t k => XS.istoreN X1.here hx rfl (hb hby dnx_4) rfl (l' := #[.val (.ref a), .val (.int w1)]) rfl k) ?_
  refine own_go (mkF m 6 #[.val (.ref a), .val (.int w1)] [(.ref a)]) (fun t k => XS.aloadN X1.here hx rfl (hb hby dnx_5) rfl rfl k) ?_
  refine own_go (mkF m 7 #[.val (.ref a), .val (.int w1)] [(.ref a), (.ref a)]) (fun t k => XS.dup X1.here hx rfl (hb hby dnx_6) rfl rfl k) ?_
  obtain ⟨T7, X7, e7, st7⟩ := getF X1 hx hZ hown (host := "") (Or.inl (hw _ (List.mem_of_getElem? (i := 14) rfl))) Via.refl e1 F_nextReferentId_a (g := (mkF m 7 #[.val (.ref a), .val (.int w1)] [(.ref a), (.ref a)])) rfl rfl (hb hby dnx_7)
  refine own_go (T' := T7) (mkF m 10 #[.val (.ref a), .val (.int w1)] [(.int w1), (.ref a)]) st7 ?_
  refine own_go (mkF m 11 #[.val (.ref a), .val (.int w1)] [(.int (4 : Int32)), (.int w1), (.ref a)]) (fun t k => XS.iconst X7.here hx rfl (hb hby dnx_10) k) ?_
  refine own_go (mkF m 12 #[.val (.ref a), .val (.int w1)] [(.int (w1 + (4 : Int32))), (.ref a)]) (fun t k => XS.iadd X7.here hx rfl (hb hby dnx_11) rfl k) ?_
  generalize hv11 : (w1 + (4 : Int32)) = v11
  have f11 : (v11.toInt - (w1.toInt + 4)) % 4294967296 = 0 := by rw [← hv11]; exact c_iadd w1 (4 : Int32)
  have r11 := rng32 v11
  replace f11 : v11 = w1 + 4 := hv11.symm
  obtain ⟨T12, h12, X12, e12, W12, st12⟩ := putF X7 hx hZ hown (host := "") (Or.inl (hw _ (List.mem_of_getElem? (i := 14) rfl))) Via.refl e7 F_nextReferentId_a E_a (Or.inl (hw _ (List.mem_of_getElem? (i := 15) rfl))) (hw _ (List.mem_of_getElem? (i := 2) rfl)) (ty := .int) (by decide) rfl rfl (g := (mkF m 12 #[.val (.ref a), .val (.int w1)] [(.int v11), (.ref a)])) rfl rfl (hb hby dnx_12)
  have N12 := Fr.snoc X12 N0 g_a
  have F_nextReferentId_a_12 := F_nextReferentId_a.same W12
  have F_start_a_12 := F_start_a.other W12 (Or.inr (slot_ne (Or.inr (hw _ (List.mem_of_getElem? (i := 17) rfl))) (Or.inl (hw _ (List.mem_of_getElem? (i := 15) rfl))) (by decide) (t := .int) (t' := .int) (by decide) (by decide)))
  have F_buffer_a_12 := F_buffer_a.other W12 (Or.inr (slot_ne (Or.inr (hw _ (List.mem_of_getElem? (i := 98) rfl))) (Or.inl (hw _ (List.mem_of_getElem? (i := 15) rfl))) (by decide) (t := (.object "com/example/dispatchwire/dispatchwire/ndr/NdrWriter$ChunkedBuffer")) (t' := .int) (by decide) (by decide)))
  have K0_12 := K0.wr W12 (Or.inl (List.mem_cons_self ..))
  have E_a_12 := E_a.wr W12
  have Z0_12 : n0 ≤ h12.size := by rw [W12.size]; exact Z0
  refine own_go (T' := T12) (mkF m 15 #[.val (.ref a), .val (.int w1)] []) st12 ?_
  refine own_go (mkF m 16 #[.val (.ref a), .val (.int w1)] [(.int w1)]) (fun t k => XS.iloadN X12.here hx rfl (hb hby dnx_15) rfl k) ?_
  refine own_retI X12 hx hlk hret (by simp) rfl (hb hby dnx_16) (by decide) (by decide) ?_
  rw [e12]
  exact ⟨⟨_, rfl, rfl⟩, N12, K0_12, _, E_a_12, F_nextReferentId_a_12, F_start_a_12, F_buffer_a_12, f11⟩
theorem dsz_0 : decode prog_60_method_2_code 0 = .ok (.aload_n 0, 1) := by decide +kernel
theorem dsz_1 : decode prog_60_method_2_code 1 = .ok (.getfield 36, 3) := by decide +kernel
theorem dsz_4 : decode prog_60_method_2_code 4 = .ok (.aload_n 0, 1) := by decide +kernel
theorem dsz_5 : decode prog_60_method_2_code 5 = .ok (.getfield 39, 3) := by decide +kernel
theorem dsz_8 : decode prog_60_method_2_code 8 = .ok (.iadd, 1) := by decide +kernel
theorem dsz_9 : decode prog_60_method_2_code 9 = .ok (.ireturn, 1) := by decide +kernel
theorem pfsz : plainFor (⟨"com/example/dispatchwire/dispatchwire/ndr/NdrWriter$ChunkedBuffer", "size", "()I"⟩ : MethodName) = true := by decide +kernel
set_option maxHeartbeats 4000000 in
theorem efsz (m : MethodId) (a : Addr) : entryFrame m #[(.ref a)] 1 = (mkF m 0 #[.val (.ref a)] []) := by first | (simp [entryFrame, mkF, argsToLocals, Value.category, maxLocals]; done) | rfl
def Qsz (Z : State) (a : Addr) (h0 : Heap) (n0 : Nat) (v : Option Value) (h : Heap) (L : List Loc) : Prop := (∃ r : Int32, v = some (.int r) ∧ r = 0) ∧ Fr n0 L ∧ h = h0
set_option maxRecDepth 65536 in
set_option maxHeartbeats 40000000 in
theorem rmsz (l : Launch) (Z : State) (a0 : Array Value) (hw : ∀ d ∈ tables_1, d.before a0 Z = true) (ws : List Jvm.Cond) (a : Addr) (h0 : Heap) (n0 : Nat) (Z0 : n0 ≤ h0.size) (F_filled_a : Fld Z h0 a "com/example/dispatchwire/dispatchwire/ndr/NdrWriter$ChunkedBuffer" "filled" "I" (.int 0)) (F_used_a : Fld Z h0 a "com/example/dispatchwire/dispatchwire/ndr/NdrWriter$ChunkedBuffer" "used" "I" (.int 0)) :
    MetFree l (⟨"com/example/dispatchwire/dispatchwire/ndr/NdrWriter$ChunkedBuffer", "size", "()I"⟩ : MethodName) (head1 (Jvm.Cond.code (⟨"com/example/dispatchwire/dispatchwire/ndr/NdrWriter$ChunkedBuffer", "size", "()I"⟩ : MethodName) prog_60_method_2_code 1 (some Jvm.ClassFile.FieldType.int) :: ws) ({ frames := 0, cells := 0, slots := 0, locals := 0 } : Room)) (fun aa U => aa = #[(.ref a)] ∧ Z.Warmed39 U.vm ∧ U.heap = h0) (fun _ _ _ _ _ => True) (fun _ U o U' => ∃ v L, o = .returned v ∧ Qsz Z a h0 n0 v U'.heap L ∧ FrameEnd U o U' L ({ frames := 0, cells := 0, slots := 0, locals := 0 } : Room).cells ({ frames := 0, cells := 0, slots := 0, locals := 0 } : Room).slots) := by
  refine own_met pfsz ?_
  intro p e s m below meth c T0 hx hby hml hown hret hlk hnm hZ X0 e0
  have N0 := Fr.nil n0
  rw [efsz]
  refine own_go (mkF m 1 #[.val (.ref a)] [(.ref a)]) (fun t k => XS.aloadN X0.here hx rfl (hb hby dsz_0) rfl rfl k) ?_
  obtain ⟨T1, X1, e1, st1⟩ := getF X0 hx hZ hown (host := "") (Or.inl (hw _ (List.mem_of_getElem? (i := 118) rfl))) Via.refl e0 F_filled_a (g := (mkF m 1 #[.val (.ref a)] [(.ref a)])) rfl rfl (hb hby dsz_1)
  refine own_go (T' := T1) (mkF m 4 #[.val (.ref a)] [(.int (0 : Int32))]) st1 ?_
  refine own_go (mkF m 5 #[.val (.ref a)] [(.ref a), (.int (0 : Int32))]) (fun t k => XS.aloadN X1.here hx rfl (hb hby dsz_4) rfl rfl k) ?_
  obtain ⟨T5, X5, e5, st5⟩ := getF X1 hx hZ hown (host := "") (Or.inl (hw _ (List.mem_of_getElem? (i := 120) rfl))) Via.refl e1 F_used_a (g := (mkF m 5 #[.val (.ref a)] [(.ref a), (.int (0 : Int32))])) rfl rfl (hb hby dsz_5)
  refine own_go (T' := T5) (mkF m 8 #[.val (.ref a)] [(.int (0 : Int32)), (.int (0 : Int32))]) st5 ?_
  refine own_go (mkF m 9 #[.val (.ref a)] [(.int ((0 : Int32) + (0 : Int32)))]) (fun t k => XS.iadd X5.here hx rfl (hb hby dsz_8) rfl k) ?_
  refine own_retI X5 hx hlk hret (by simp) rfl (hb hby dsz_9) (by decide) (by decide) ?_
  rw [e5]
  exact ⟨⟨_, rfl, rfl⟩, N0, rfl⟩
theorem dpo_0 : decode prog_59_method_4_code 0 = .ok (.aload_n 0, 1) := by decide +kernel
theorem dpo_1 : decode prog_59_method_4_code 1 = .ok (.getfield 26, 3) := by decide +kernel
theorem dpo_4 : decode prog_59_method_4_code 4 = .ok (.aload_n 0, 1) := by decide +kernel
theorem dpo_5 : decode prog_59_method_4_code 5 = .ok (.getfield 41, 3) := by decide +kernel
theorem dpo_8 : decode prog_59_method_4_code 8 = .ok (.invokevirtual 45, 3) := by decide +kernel
theorem dpo_11 : decode prog_59_method_4_code 11 = .ok (.iadd, 1) := by decide +kernel
theorem dpo_12 : decode prog_59_method_4_code 12 = .ok (.ireturn, 1) := by decide +kernel
theorem pdpo_0 : parseMethodDescriptor "()I" = some ⟨[], some .int⟩ := by decide +kernel
theorem pfpo : plainFor (⟨"com/example/dispatchwire/dispatchwire/ndr/NdrWriter", "position", "()I"⟩ : MethodName) = true := by decide +kernel
set_option maxHeartbeats 4000000 in
theorem efpo (m : MethodId) (a : Addr) : entryFrame m #[(.ref a)] 1 = (mkF m 0 #[.val (.ref a)] []) := by first | (simp [entryFrame, mkF, argsToLocals, Value.category, maxLocals]; done) | rfl
def Qpo (Z : State) (a : Addr) (w2 : Int32) (bb : Addr) (h0 : Heap) (n0 : Nat) (v : Option Value) (h : Heap) (L : List Loc) : Prop := (∃ r : Int32, v = some (.int r) ∧ r = w2) ∧ Fr n0 L ∧ h = h0
set_option maxRecDepth 65536 in
set_option maxHeartbeats 40000000 in
theorem rmpo (l : Launch) (Z : State) (a0 : Array Value) (hw : ∀ d ∈ tables_1, d.before a0 Z = true) (ws : List Jvm.Cond) (a : Addr) (w2 : Int32) (bb : Addr) (h0 : Heap) (n0 : Nat) (Z0 : n0 ≤ h0.size) (F_start_a : Fld Z h0 a "com/example/dispatchwire/dispatchwire/ndr/NdrWriter" "start" "I" (.int w2)) (F_buffer_a : Fld Z h0 a "com/example/dispatchwire/dispatchwire/ndr/NdrWriter" "buffer" "Lcom/example/dispatchwire/dispatchwire/ndr/NdrWriter$ChunkedBuffer;" (.ref bb)) (E_bb : Exa Z h0 bb "com/example/dispatchwire/dispatchwire/ndr/NdrWriter$ChunkedBuffer") (F_filled_bb : Fld Z h0 bb "com/example/dispatchwire/dispatchwire/ndr/NdrWriter$ChunkedBuffer" "filled" "I" (.int 0)) (F_used_bb : Fld Z h0 bb "com/example/dispatchwire/dispatchwire/ndr/NdrWriter$ChunkedBuffer" "used" "I" (.int 0)) :
    MetFree l (⟨"com/example/dispatchwire/dispatchwire/ndr/NdrWriter", "position", "()I"⟩ : MethodName) (head1 (Jvm.Cond.code (⟨"com/example/dispatchwire/dispatchwire/ndr/NdrWriter", "position", "()I"⟩ : MethodName) prog_59_method_4_code 1 (some Jvm.ClassFile.FieldType.int) :: ws) ({ frames := 1, cells := 0, slots := 0, locals := 14 } : Room)) (fun aa U => aa = #[(.ref a)] ∧ Z.Warmed39 U.vm ∧ U.heap = h0) (fun _ _ _ _ _ => True) (fun _ U o U' => ∃ v L, o = .returned v ∧ Qpo Z a w2 bb h0 n0 v U'.heap L ∧ FrameEnd U o U' L ({ frames := 1, cells := 0, slots := 0, locals := 14 } : Room).cells ({ frames := 1, cells := 0, slots := 0, locals := 14 } : Room).slots) := by
  refine own_met pfpo ?_
  intro p e s m below meth c T0 hx hby hml hown hret hlk hnm hZ X0 e0
  have N0 := Fr.nil n0
  rw [efpo]
  refine own_go (mkF m 1 #[.val (.ref a)] [(.ref a)]) (fun t k => XS.aloadN X0.here hx rfl (hb hby dpo_0) rfl rfl k) ?_
  obtain ⟨T1, X1, e1, st1⟩ := getF X0 hx hZ hown (host := "") (Or.inl (hw _ (List.mem_of_getElem? (i := 16) rfl))) Via.refl e0 F_start_a (g := (mkF m 1 #[.val (.ref a)] [(.ref a)])) rfl rfl (hb hby dpo_1)
  refine own_go (T' := T1) (mkF m 4 #[.val (.ref a)] [(.int w2)]) st1 ?_
  refine own_go (mkF m 5 #[.val (.ref a)] [(.ref a), (.int w2)]) (fun t k => XS.aloadN X1.here hx rfl (hb hby dpo_4) rfl rfl k) ?_
  obtain ⟨T5, X5, e5, st5⟩ := getF X1 hx hZ hown (host := "") (Or.inl (hw _ (List.mem_of_getElem? (i := 97) rfl))) Via.refl e1 F_buffer_a (g := (mkF m 5 #[.val (.ref a)] [(.ref a), (.int w2)])) rfl rfl (hb hby dpo_5)
  refine own_go (T' := T5) (mkF m 8 #[.val (.ref a)] [(.ref bb), (.int w2)]) st5 ?_
  refine own_callV X5 hx hZ (y := (⟨"com/example/dispatchwire/dispatchwire/ndr/NdrWriter$ChunkedBuffer", "size", "()I"⟩ : MethodName)) hown (hw _ (List.mem_of_getElem? (i := 113) rfl)) (hw _ (List.mem_of_getElem? (i := 114) rfl)) (hw _ (List.mem_of_getElem? (i := 116) rfl)) (hw _ (List.mem_of_getElem? (i := 115) rfl)) (hw _ (List.mem_of_getElem? (i := 22) rfl)) (hw _ (List.mem_of_getElem? (i := 117) rfl)) (by decide) e5 bb E_bb (rmsz l Z a0 hw [] bb h0 n0 Z0 F_filled_bb F_used_bb) 1 (by decide) (by decide) (by decide) (by decide) (g := (mkF m 8 #[.val (.ref a)] [(.ref bb), (.int w2)])) rfl (by rw [hml]; rfl) [] [(.int w2)] (lenOf pdpo_0 rfl) rfl rfl (by show 2 * 0 + _ ≤ _; exact Nat.le_of_eq rfl) (hb hby dpo_8) ?_
  intro rv8 T8 h8 L8 X8 e8 hQ8
  obtain ⟨⟨rs8, rfl, hs8⟩, NQ8, eq8⟩ := hQ8
  rw [eq8] at e8
  have N8 := Fr.app N0 NQ8
  show own_Ends p e below s ({ frames := 1, cells := 0, slots := 0, locals := 14 } : Room).cells ({ frames := 1, cells := 0, slots := 0, locals := 14 } : Room).slots (Qpo Z a w2 bb h0 n0) T8 (mkF m 11 #[.val (.ref a)] [(.int rs8), (.int w2)])
  refine own_go (mkF m 12 #[.val (.ref a)] [(.int (w2 + rs8))]) (fun t k => XS.iadd X8.here hx rfl (hb hby dpo_11) rfl k) ?_
  refine own_retI X8 hx hlk hret (by simp) rfl (hb hby dpo_12) (by decide) (by decide) ?_
  rw [e8]
  exact ⟨⟨_, rfl, by rw [hs8]; exact Int32.add_zero _⟩, N8, rfl⟩
theorem pd0_0 : parseMethodDescriptor "(I)V" = some ⟨[.int], none⟩ := by decide +kernel
theorem pd0_1 : parseMethodDescriptor "()I" = some ⟨[], some .int⟩ := by decide +kernel
theorem pf0 : plainFor (⟨"com/example/dispatchwire/dispatchwire/ndr/NdrWriterNextReferentIdPinLaw", "law", "(I)Z"⟩ : MethodName) = true := by decide +kernel
set_option maxHeartbeats 4000000 in
theorem ef0 (m : MethodId) (q1 : Int32) : entryFrame m #[(.int q1)] maxLocals = (mkF m 0 #[.val (.int q1), .unset, .unset, .unset, .unset, .unset, .unset] []) := by first | (simp [entryFrame, mkF, argsToLocals, Value.category, maxLocals]; done) | rfl
def Q0 (Z : State) (q1 : Int32) (dv : Addr) (h0 : Heap) (n0 : Nat) (v : Option Value) (h : Heap) (L : List Loc) : Prop := v = some (.int 1) ∧ Fr n0 L
set_option maxRecDepth 65536 in
set_option maxHeartbeats 40000000 in
theorem rm0 (l : Launch) (Z : State) (a0 : Array Value) (hw : ∀ d ∈ tables_1, d.before a0 Z = true) (ws : List Jvm.Cond) (q1 : Int32) (dv : Addr) (h0 : Heap) (n0 : Nat) (Z0 : n0 ≤ h0.size) (hO : Old Z n0 h0) (S_d : Sta Z Z.heap "java/util/ArrayList" "DEFAULTCAPACITY_EMPTY_ELEMENTDATA" "[Ljava/lang/Object;" (.ref dv)) (A_d : own_Ae Z Z.heap dv) :
    MetFree l x (head1 (Jvm.Cond.code x code maxLocals ret :: ws) room_1) (fun aa U => aa = #[(.int q1)] ∧ Z.Warmed39 U.vm ∧ U.heap = h0) (fun _ _ _ _ _ => True) (fun _ U o U' => ∃ v L, o = .returned v ∧ Q0 Z q1 dv h0 n0 v U'.heap L ∧ FrameEnd U o U' L room_1.cells room_1.slots) := by
  refine own_met pf0 ?_
  intro p e s m below meth c T0 hx hby hml hown hret hlk hnm hZ X0 e0
  have N0 := Fr.nil n0
  have r_q1 := rng32 q1
  rw [ef0]
  refine own_go (mkF m 1 #[.val (.int q1), .unset, .unset, .unset, .unset, .unset, .unset] [(.int q1)]) (fun t k => XS.iloadN X0.here hx rfl (hb hby at_0) rfl k) ?_
  refine own_go (mkF m 3 #[.val (.int q1), .unset, .unset, .unset, .unset, .unset, .unset] [(.int (2147483647 : Int32)), (.int q1)]) (fun t k => X0.ldcInt hx hown (mvT hZ (hw _ (List.mem_of_getElem? (i := 0) rfl))) (g := (mkF m 1 #[.val (.int q1), .unset, .unset, .unset, .unset, .unset, .unset] [(.int q1)])) rfl (hb hby at_1) _ k) ?_
  refine own_go (mkF m 4 #[.val (.int q1), .unset, .unset, .unset, .unset, .unset, .unset] [(.int (q1 &&& (2147483647 : Int32)))]) (fun t k => XS.iand X0.here hx rfl (hb hby at_3) rfl k) ?_
  generalize hv3 : (q1 &&& (2147483647 : Int32)) = v3
  have f3 : v3.toInt = q1.toInt % 2147483648 := by rw [← hv3]; exact c_mask q1 (2147483647 : Int32) 31 (by decide) (by decide)
  have r3 := rng32 v3
  refine own_go (mkF m 5 #[.val (.int q1), .val (.int v3), .unset, .unset, .unset, .unset, .unset] []) (fun t k => XS.istoreN X0.here hx rfl (hb hby at_4) rfl (l' := #[.val (.int q1), .val (.int v3), .unset, .unset, .unset, .unset, .unset]) rfl k) ?_
  obtain ⟨T5, h5, X5, e5, E5, A5, D5, -, st5⟩ := newO X0 hx hZ hown (hw _ (List.mem_of_getElem? (i := 1) rfl)) (hw _ (List.mem_of_getElem? (i := 2) rfl)) (hw _ (List.mem_of_getElem? (i := 3) rfl)) e0 (g := (mkF m 5 #[.val (.int q1), .val (.int v3), .unset, .unset, .unset, .unset, .unset] [])) rfl (hb hby at_5) (by decide) (by decide)
  obtain ⟨b5, g5⟩ : ∃ z, z = h0.size := ⟨_, rfl⟩
  rw [← g5] at A5 D5 st5
  have gb5 : n0 ≤ b5 := Nat.le_trans Z0 (Nat.le_of_eq g5.symm)
  have hO_5 := hO.ext E5
  have Z0_5 : n0 ≤ h5.size := Nat.le_trans Z0 E5.1
  have F_nextReferentId_b5 : Fld Z h5 b5 "com/example/dispatchwire/dispatchwire/ndr/NdrWriter" "nextReferentId" "I" (.int (0 : Int32)) := D5 (Or.inl (hw _ (List.mem_of_getElem? (i := 15) rfl))) (ty := .int) (by decide)
  have F_start_b5 : Fld Z h5 b5 "com/example/dispatchwire/dispatchwire/ndr/NdrWriter" "start" "I" (.int (0 : Int32)) := D5 (Or.inr (hw _ (List.mem_of_getElem? (i := 17) rfl))) (ty := .int) (by decide)
  have F_aligned_b5 : Fld Z h5 b5 "com/example/dispatchwire/dispatchwire/ndr/NdrWriter" "aligned" "Z" (.int (0 : Int32)) := D5 (Or.inr (hw _ (List.mem_of_getElem? (i := 19) rfl))) (ty := .boolean) (by decide)
  have F_buffer_b5 : Fld Z h5 b5 "com/example/dispatchwire/dispatchwire/ndr/NdrWriter" "buffer" "Lcom/example/dispatchwire/dispatchwire/ndr/NdrWriter$ChunkedBuffer;" (.null) := D5 (Or.inr (hw _ (List.mem_of_getElem? (i := 98) rfl))) (ty := (.object "com/example/dispatchwire/dispatchwire/ndr/NdrWriter$ChunkedBuffer")) (by decide)
  refine own_go (T' := T5) (mkF m 8 #[.val (.int q1), .val (.int v3), .unset, .unset, .unset, .unset, .unset] [(.ref b5)]) st5 ?_
  refine own_go (mkF m 9 #[.val (.int q1), .val (.int v3), .unset, .unset, .unset, .unset, .unset] [(.ref b5), (.ref b5)]) (fun t k => XS.dup X5.here hx rfl (hb hby at_8) rfl rfl k) ?_
  refine own_go (mkF m 10 #[.val (.int q1), .val (.int v3), .unset, .unset, .unset, .unset, .unset] [(.int v3), (.ref b5), (.ref b5)]) (fun t k => XS.iloadN X5.here hx rfl (hb hby at_9) rfl k) ?_
  refine own_callI X5 hx hZ (y := (⟨"com/example/dispatchwire/dispatchwire/ndr/NdrWriter", "<init>", "(I)V"⟩ : MethodName)) hown rfl (hw _ (List.mem_of_getElem? (i := 4) rfl)) (hw _ (List.mem_of_getElem? (i := 5) rfl)) (hw _ (List.mem_of_getElem? (i := 3) rfl)) (hw _ (List.mem_of_getElem? (i := 6) rfl)) (by decide) e5 (rmn1 l Z a0 hw [] b5 v3 dv h5 n0 Z0_5 A5 F_nextReferentId_b5 F_start_b5 F_aligned_b5 F_buffer_b5 gb5 hO_5 S_d A_d (by omega)) 1 (by decide) (by decide) (by decide) (by decide) (g := (mkF m 10 #[.val (.int q1), .val (.int v3), .unset, .unset, .unset, .unset, .unset] [(.int v3), (.ref b5), (.ref b5)])) rfl (by rw [hml]; rfl) b5 [(.int v3)] [(.ref b5)] (lenOf pd0_0 rfl) rfl rfl (by show 2 * 0 + _ ≤ _; exact Nat.le_of_eq rfl) (hb hby at_10) ?_
  intro rv10 T10 h10 L10 X10 e10 hQ10
  obtain ⟨rfl, NQ10, KQ10, bb10, EQ10, Fn10, Fs10, Fb10, EB10, Ff10, Fu10, gb10, nb10⟩ := hQ10
  have hO_10 := hO_5.keep KQ10 (allS gb5 all0)
  have Z0_10 : n0 ≤ h10.size := Nat.le_trans Z0_5 KQ10.1
  have A5_10 := A5.keep KQ10
  have N10 := Fr.app N0 NQ10
  show own_Ends p e below s room_1.cells room_1.slots (Q0 Z q1 dv h0 n0) T10 (mkF m 13 #[.val (.int q1), .val (.int v3), .unset, .unset, .unset, .unset, .unset] [(.ref b5)])
  refine own_go (mkF m 14 #[.val (.int q1), .val (.int v3), .val (.ref b5), .unset, .unset, .unset, .unset] []) (fun t k => XS.astoreN X10.here hx rfl (hb hby at_13) rfl rfl (l' := #[.val (.int q1), .val (.int v3), .val (.ref b5), .unset, .unset, .unset, .unset]) rfl k) ?_
  refine own_go (mkF m 15 #[.val (.int q1), .val (.int v3), .val (.ref b5), .unset, .unset, .unset, .unset] [(.ref b5)]) (fun t k => XS.aloadN X10.here hx rfl (hb hby at_14) rfl rfl k) ?_
  refine own_callV X10 hx hZ (y := (⟨"com/example/dispatchwire/dispatchwire/ndr/NdrWriter", "nextReferentId", "()I"⟩ : MethodName)) hown (hw _ (List.mem_of_getElem? (i := 99) rfl)) (hw _ (List.mem_of_getElem? (i := 100) rfl)) (hw _ (List.mem_of_getElem? (i := 102) rfl)) (hw _ (List.mem_of_getElem? (i := 101) rfl)) (hw _ (List.mem_of_getElem? (i := 3) rfl)) (hw _ (List.mem_of_getElem? (i := 103) rfl)) (by decide) e10 b5 EQ10 (rmnx l Z a0 hw [] b5 (131072 : Int32) v3 bb10 h10 n0 Z0_10 EQ10 Fn10 Fs10 Fb10 gb5) 0 (by decide) (by decide) (by decide) (by decide) (g := (mkF m 15 #[.val (.int q1), .val (.int v3), .val (.ref b5), .unset, .unset, .unset, .unset] [(.ref b5)])) rfl (by rw [hml]; rfl) [] [] (lenOf pd0_1 rfl) rfl rfl (by show 2 * 0 + _ ≤ _; exact Nat.le_of_eq rfl) (hb hby at_15) ?_
  intro rv15 T15 h15 L15 X15 e15 hQ15
  obtain ⟨⟨rx15, rfl, hx15⟩, NQ15, KQ15, wn15, EQ15, Fn15, Fs15, Fb15, hw15⟩ := hQ15
  have hO_15 := hO_10.keep KQ15 (allS gb5 all0)
  have Z0_15 : n0 ≤ h15.size := Nat.le_trans Z0_10 KQ15.1
  have EQ10_15 := EQ10.keep KQ15
  have EB10_15 := EB10.keep KQ15
  have Ff10_15 := Ff10.keep KQ15 (ninS (Ne.symm nb10) nin0)
  have Fu10_15 := Fu10.keep KQ15 (ninS (Ne.symm nb10) nin0)
  rw [show (131072 : Int32) = 131072 from rfl] at hw15 hx15
  have N15 := Fr.app N10 NQ15
  show own_Ends p e below s room_1.cells room_1.slots (Q0 Z q1 dv h0 n0) T15 (mkF m 18 #[.val (.int q1), .val (.int v3), .val (.ref b5), .unset, .unset, .unset, .unset] [(.int rx15)])
  refine own_go (mkF m 19 #[.val (.int q1), .val (.int v3), .val (.ref b5), .val (.int rx15), .unset, .unset, .unset] []) (fun t k => XS.istoreN X15.here hx rfl (hb hby at_18) rfl (l' := #[.val (.int q1), .val (.int v3), .val (.ref b5), .val (.int rx15), .unset, .unset, .unset]) rfl k) ?_
  refine own_go (mkF m 20 #[.val (.int q1), .val (.int v3), .val (.ref b5), .val (.int rx15), .unset, .unset, .unset] [(.ref b5)]) (fun t k => XS.aloadN X15.here hx rfl (hb hby at_19) rfl rfl k) ?_
  refine own_callV X15 hx hZ (y := (⟨"com/example/dispatchwire/dispatchwire/ndr/NdrWriter", "nextReferentId", "()I"⟩ : MethodName)) hown (hw _ (List.mem_of_getElem? (i := 99) rfl)) (hw _ (List.mem_of_getElem? (i := 100) rfl)) (hw _ (List.mem_of_getElem? (i := 102) rfl)) (hw _ (List.mem_of_getElem? (i := 101) rfl)) (hw _ (List.mem_of_getElem? (i := 3) rfl)) (hw _ (List.mem_of_getElem? (i := 103) rfl)) (by decide) e15 b5 EQ15 (rmnx l Z a0 hw [] b5 wn15 v3 bb10 h15 n0 Z0_15 EQ15 Fn15 Fs15 Fb15 gb5) 0 (by decide) (by decide) (by decide) (by decide) (g := (mkF m 20 #[.val (.int q1), .val (.int v3), .val (.ref b5), .val (.int rx15), .unset, .unset, .unset] [(.ref b5)])) rfl (by rw [hml]; rfl) [] [] (lenOf pd0_1 rfl) rfl rfl (by show 2 * 0 + _ ≤ _; exact Nat.le_of_eq rfl) (hb hby at_20) ?_
  intro rv20 T20 h20 L20 X20 e20 hQ20
  obtain ⟨⟨rx20, rfl, hx20⟩, NQ20, KQ20, wn20, EQ20, Fn20, Fs20, Fb20, hw20⟩ := hQ20
  have hO_20 := hO_15.keep KQ20 (allS gb5 all0)
  have Z0_20 : n0 ≤ h20.size := Nat.le_trans Z0_15 KQ20.1
  have EQ15_20 := EQ15.keep KQ20
  have EB10_20 := EB10_15.keep KQ20
  have Ff10_20 := Ff10_15.keep KQ20 (ninS (Ne.symm nb10) nin0)
  have Fu10_20 := Fu10_15.keep KQ20 (ninS (Ne.symm nb10) nin0)
  rw [hw15] at hw20 hx20
  have N20 := Fr.app N15 NQ20
  show own_Ends p e below s room_1.cells room_1.slots (Q0 Z q1 dv h0 n0) T20 (mkF m 23 #[.val (.int q1), .val (.int v3), .val (.ref b5), .val (.int rx15), .unset, .unset, .unset] [(.int rx20)])
  refine own_go (mkF m 25 #[.val (.int q1), .val (.int v3), .val (.ref b5), .val (.int rx15), .val (.int rx20), .unset, .unset] []) (fun t k => XS.istore X20.here hx rfl (hb hby at_23) rfl (l' := #[.val (.int q1), .val (.int v3), .val (.ref b5), .val (.int rx15), .val (.int rx20), .unset, .unset]) rfl k) ?_
  refine own_go (mkF m 26 #[.val (.int q1), .val (.int v3), .val (.ref b5), .val (.int rx15), .val (.int rx20), .unset, .unset] [(.ref b5)]) (fun t k => XS.aloadN X20.here hx rfl (hb hby at_25) rfl rfl k) ?_
  refine own_callV X20 hx hZ (y := (⟨"com/example/dispatchwire/dispatchwire/ndr/NdrWriter", "nextReferentId", "()I"⟩ : MethodName)) hown (hw _ (List.mem_of_getElem? (i := 99) rfl)) (hw _ (List.mem_of_getElem? (i := 100) rfl)) (hw _ (List.mem_of_getElem? (i := 102) rfl)) (hw _ (List.mem_of_getElem? (i := 101) rfl)) (hw _ (List.mem_of_getElem? (i := 3) rfl)) (hw _ (List.mem_of_getElem? (i := 103) rfl)) (by decide) e20 b5 EQ20 (rmnx l Z a0 hw [] b5 wn20 v3 bb10 h20 n0 Z0_20 EQ20 Fn20 Fs20 Fb20 gb5) 0 (by decide) (by decide) (by decide) (by decide) (g := (mkF m 26 #[.val (.int q1), .val (.int v3), .val (.ref b5), .val (.int rx15), .val (.int rx20), .unset, .unset] [(.ref b5)])) rfl (by rw [hml]; rfl) [] [] (lenOf pd0_1 rfl) rfl rfl (by show 2 * 0 + _ ≤ _; exact Nat.le_of_eq rfl) (hb hby at_26) ?_
  intro rv26 T26 h26 L26 X26 e26 hQ26
  obtain ⟨⟨rx26, rfl, hx26⟩, NQ26, KQ26, wn26, EQ26, Fn26, Fs26, Fb26, hw26⟩ := hQ26
  have hO_26 := hO_20.keep KQ26 (allS gb5 all0)
  have Z0_26 : n0 ≤ h26.size := Nat.le_trans Z0_20 KQ26.1
  have EQ20_26 := EQ20.keep KQ26
  have EB10_26 := EB10_20.keep KQ26
  have Ff10_26 := Ff10_20.keep KQ26 (ninS (Ne.symm nb10) nin0)
  have Fu10_26 := Fu10_20.keep KQ26 (ninS (Ne.symm nb10) nin0)
  rw [hw20] at hw26 hx26
  have N26 := Fr.app N20 NQ26
  show own_Ends p e below s room_1.cells room_1.slots (Q0 Z q1 dv h0 n0) T26 (mkF m 29 #[.val (.int q1), .val (.int v3), .val (.ref b5), .val (.int rx15), .val (.int rx20), .unset, .unset] [(.int rx26)])
  refine own_go (mkF m 31 #[.val (.int q1), .val (.int v3), .val (.ref b5), .val (.int rx15), .val (.int rx20), .val (.int rx26), .unset] []) (fun t k => XS.istore X26.here hx rfl (hb hby at_29) rfl (l' := #[.val (.int q1), .val (.int v3), .val (.ref b5), .val (.int rx15), .val (.int rx20), .val (.int rx26), .unset]) rfl k) ?_
  refine own_go (mkF m 32 #[.val (.int q1), .val (.int v3), .val (.ref b5), .val (.int rx15), .val (.int rx20), .val (.int rx26), .unset] [(.ref b5)]) (fun t k => XS.aloadN X26.here hx rfl (hb hby at_31) rfl rfl k) ?_
  refine own_callV X26 hx hZ (y := (⟨"com/example/dispatchwire/dispatchwire/ndr/NdrWriter", "nextReferentId", "()I"⟩ : MethodName)) hown (hw _ (List.mem_of_getElem? (i := 99) rfl)) (hw _ (List.mem_of_getElem? (i := 100) rfl)) (hw _ (List.mem_of_getElem? (i := 102) rfl)) (hw _ (List.mem_of_getElem? (i := 101) rfl)) (hw _ (List.mem_of_getElem? (i := 3) rfl)) (hw _ (List.mem_of_getElem? (i := 103) rfl)) (by decide) e26 b5 EQ26 (rmnx l Z a0 hw [] b5 wn26 v3 bb10 h26 n0 Z0_26 EQ26 Fn26 Fs26 Fb26 gb5) 0 (by decide) (by decide) (by decide) (by decide) (g := (mkF m 32 #[.val (.int q1), .val (.int v3), .val (.ref b5), .val (.int rx15), .val (.int rx20), .val (.int rx26), .unset] [(.ref b5)])) rfl (by rw [hml]; rfl) [] [] (lenOf pd0_1 rfl) rfl rfl (by show 2 * 0 + _ ≤ _; exact Nat.le_of_eq rfl) (hb hby at_32) ?_
  intro rv32 T32 h32 L32 X32 e32 hQ32
  obtain ⟨⟨rx32, rfl, hx32⟩, NQ32, KQ32, wn32, EQ32, Fn32, Fs32, Fb32, hw32⟩ := hQ32
  have hO_32 := hO_26.keep KQ32 (allS gb5 all0)
  have Z0_32 : n0 ≤ h32.size := Nat.le_trans Z0_26 KQ32.1
  have EQ26_32 := EQ26.keep KQ32
  have EB10_32 := EB10_26.keep KQ32
  have Ff10_32 := Ff10_26.keep KQ32 (ninS (Ne.symm nb10) nin0)
  have Fu10_32 := Fu10_26.keep KQ32 (ninS (Ne.symm nb10) nin0)
  rw [hw26] at hw32 hx32
  have N32 := Fr.app N26 NQ32
  show own_Ends p e below s room_1.cells room_1.slots (Q0 Z q1 dv h0 n0) T32 (mkF m 35 #[.val (.int q1), .val (.int v3), .val (.ref b5), .val (.int rx15), .val (.int rx20), .val (.int rx26), .unset] [(.int rx32)])
  refine own_go (mkF m 37 #[.val (.int q1), .val (.int v3), .val (.ref b5), .val (.int rx15), .val (.int rx20), .val (.int rx26), .val (.int rx32)] []) (fun t k => XS.istore X32.here hx rfl (hb hby at_35) rfl (l' := #[.val (.int q1), .val (.int v3), .val (.ref b5), .val (.int rx15), .val (.int rx20), .val (.int rx26), .val (.int rx32)]) rfl k) ?_
  refine own_go (mkF m 38 #[.val (.int q1), .val (.int v3), .val (.ref b5), .val (.int rx15), .val (.int rx20), .val (.int rx26), .val (.int rx32)] [(.int rx15)]) (fun t k => XS.iloadN X32.here hx rfl (hb hby at_37) rfl k) ?_
  refine own_go (mkF m 40 #[.val (.int q1), .val (.int v3), .val (.ref b5), .val (.int rx15), .val (.int rx20), .val (.int rx26), .val (.int rx32)] [(.int (131072 : Int32)), (.int rx15)]) (fun t k => X32.ldcInt hx hown (mvT hZ (hw _ (List.mem_of_getElem? (i := 104) rfl))) (g := (mkF m 38 #[.val (.int q1), .val (.int v3), .val (.ref b5), .val (.int rx15), .val (.int rx20), .val (.int rx26), .val (.int rx32)] [(.int rx15)])) rfl (hb hby at_38) _ k) ?_
  have c40 : rx15.toInt = 131072 := by rw [hx15]; rfl
  refine own_go (mkF m 43 #[.val (.int q1), .val (.int v3), .val (.ref b5), .val (.int rx15), .val (.int rx20), .val (.int rx26), .val (.int rx32)] []) (fun t k => XS.icmpNo X32.here hx rfl (hb hby at_40) rfl (own_icF (cd := .ne) (fun q => q c40)) k) ?_
  refine own_go (mkF m 45 #[.val (.int q1), .val (.int v3), .val (.ref b5), .val (.int rx15), .val (.int rx20), .val (.int rx26), .val (.int rx32)] [(.int rx20)]) (fun t k => XS.iload X32.here hx rfl (hb hby at_43) rfl k) ?_
  refine own_go (mkF m 47 #[.val (.int q1), .val (.int v3), .val (.ref b5), .val (.int rx15), .val (.int rx20), .val (.int rx26), .val (.int rx32)] [(.int (131076 : Int32)), (.int rx20)]) (fun t k => X32.ldcInt hx hown (mvT hZ (hw _ (List.mem_of_getElem? (i := 105) rfl))) (g := (mkF m 45 #[.val (.int q1), .val (.int v3), .val (.ref b5), .val (.int rx15), .val (.int rx20), .val (.int rx26), .val (.int rx32)] [(.int rx20)])) rfl (hb hby at_45) _ k) ?_
  have c47 : rx20.toInt = 131076 := by rw [hx20]; rfl
  refine own_go (mkF m 50 #[.val (.int q1), .val (.int v3), .val (.ref b5), .val (.int rx15), .val (.int rx20), .val (.int rx26), .val (.int rx32)] []) (fun t k => XS.icmpNo X32.here hx rfl (hb hby at_47) rfl (own_icF (cd := .ne) (fun q => q c47)) k) ?_
  refine own_go (mkF m 52 #[.val (.int q1), .val (.int v3), .val (.ref b5), .val (.int rx15), .val (.int rx20), .val (.int rx26), .val (.int rx32)] [(.int rx26)]) (fun t k => XS.iload X32.here hx rfl (hb hby at_50) rfl k) ?_
  refine own_go (mkF m 54 #[.val (.int q1), .val (.int v3), .val (.ref b5), .val (.int rx15), .val (.int rx20), .val (.int rx26), .val (.int rx32)] [(.int (131080 : Int32)), (.int rx26)]) (fun t k => X32.ldcInt hx hown (mvT hZ (hw _ (List.mem_of_getElem? (i := 106) rfl))) (g := (mkF m 52 #[.val (.int q1), .val (.int v3), .val (.ref b5), .val (.int rx15), .val (.int rx20), .val (.int rx26), .val (.int rx32)] [(.int rx26)])) rfl (hb hby at_52) _ k) ?_
  have c54 : rx26.toInt = 131080 := by rw [hx26]; rfl
  refine own_go (mkF m 57 #[.val (.int q1), .val (.int v3), .val (.ref b5), .val (.int rx15), .val (.int rx20), .val (.int rx26), .val (.int rx32)] []) (fun t k => XS.icmpNo X32.here hx rfl (hb hby at_54) rfl (own_icF (cd := .ne) (fun q => q c54)) k) ?_
  refine own_go (mkF m 59 #[.val (.int q1), .val (.int v3), .val (.ref b5), .val (.int rx15), .val (.int rx20), .val (.int rx26), .val (.int rx32)] [(.int rx32)]) (fun t k => XS.iload X32.here hx rfl (hb hby at_57) rfl k) ?_
  refine own_go (mkF m 61 #[.val (.int q1), .val (.int v3), .val (.ref b5), .val (.int rx15), .val (.int rx20), .val (.int rx26), .val (.int rx32)] [(.int (131084 : Int32)), (.int rx32)]) (fun t k => X32.ldcInt hx hown (mvT hZ (hw _ (List.mem_of_getElem? (i := 107) rfl))) (g := (mkF m 59 #[.val (.int q1), .val (.int v3), .val (.ref b5), .val (.int rx15), .val (.int rx20), .val (.int rx26), .val (.int rx32)] [(.int rx32)])) rfl (hb hby at_59) _ k) ?_
  have c61 : rx32.toInt = 131084 := by rw [hx32]; rfl
  refine own_go (mkF m 64 #[.val (.int q1), .val (.int v3), .val (.ref b5), .val (.int rx15), .val (.int rx20), .val (.int rx26), .val (.int rx32)] []) (fun t k => XS.icmpNo X32.here hx rfl (hb hby at_61) rfl (own_icF (cd := .ne) (fun q => q c61)) k) ?_
  refine own_go (mkF m 65 #[.val (.int q1), .val (.int v3), .val (.ref b5), .val (.int rx15), .val (.int rx20), .val (.int rx26), .val (.int rx32)] [(.ref b5)]) (fun t k => XS.aloadN X32.here hx rfl (hb hby at_64) rfl rfl k) ?_
  refine own_callV X32 hx hZ (y := (⟨"com/example/dispatchwire/dispatchwire/ndr/NdrWriter", "position", "()I"⟩ : MethodName)) hown (hw _ (List.mem_of_getElem? (i := 108) rfl)) (hw _ (List.mem_of_getElem? (i := 109) rfl)) (hw _ (List.mem_of_getElem? (i := 111) rfl)) (hw _ (List.mem_of_getElem? (i := 110) rfl)) (hw _ (List.mem_of_getElem? (i := 3) rfl)) (hw _ (List.mem_of_getElem? (i := 112) rfl)) (by decide) e32 b5 EQ32 (rmpo l Z a0 hw [] b5 v3 bb10 h32 n0 Z0_32 Fs32 Fb32 EB10_32 Ff10_32 Fu10_32) 0 (by decide) (by decide) (by decide) (by decide) (g := (mkF m 65 #[.val (.int q1), .val (.int v3), .val (.ref b5), .val (.int rx15), .val (.int rx20), .val (.int rx26), .val (.int rx32)] [(.ref b5)])) rfl (by rw [hml]; rfl) [] [] (lenOf pd0_1 rfl) rfl rfl (by show 2 * 0 + _ ≤ _; exact Nat.le_of_eq rfl) (hb hby at_65) ?_
  intro rv65 T65 h65 L65 X65 e65 hQ65
  obtain ⟨⟨rp65, rfl, hp65⟩, NQ65, eq65⟩ := hQ65
  rw [eq65] at e65
  have N65 := Fr.app N32 NQ65
  show own_Ends p e below s room_1.cells room_1.slots (Q0 Z q1 dv h0 n0) T65 (mkF m 68 #[.val (.int q1), .val (.int v3), .val (.ref b5), .val (.int rx15), .val (.int rx20), .val (.int rx26), .val (.int rx32)] [(.int rp65)])
  refine own_go (mkF m 69 #[.val (.int q1), .val (.int v3), .val (.ref b5), .val (.int rx15), .val (.int rx20), .val (.int rx26), .val (.int rx32)] [(.int v3), (.int rp65)]) (fun t k => XS.iloadN X65.here hx rfl (hb hby at_68) rfl k) ?_
  have c69 : rp65.toInt = v3.toInt := by rw [hp65]
  refine own_go (mkF m 72 #[.val (.int q1), .val (.int v3), .val (.ref b5), .val (.int rx15), .val (.int rx20), .val (.int rx26), .val (.int rx32)] []) (fun t k => XS.icmpNo X65.here hx rfl (hb hby at_69) rfl (own_icF (cd := .ne) (fun q => q c69)) k) ?_
  refine own_go (mkF m 73 #[.val (.int q1), .val (.int v3), .val (.ref b5), .val (.int rx15), .val (.int rx20), .val (.int rx26), .val (.int rx32)] [(.int (1 : Int32))]) (fun t k => XS.iconst X65.here hx rfl (hb hby at_72) k) ?_
  refine own_go (mkF m 77 #[.val (.int q1), .val (.int v3), .val (.ref b5), .val (.int rx15), .val (.int rx20), .val (.int rx26), .val (.int rx32)] [(.int (1 : Int32))]) (fun t k => XS.goto X65.here hx rfl (pc0 := 73) (pc' := 77) rfl (hb hby at_73) (by decide) (by decide) k) ?_
  refine own_retI X65 hx hlk hret (by simp) rfl (hb hby at_77) (by decide) (by decide) ?_
  rw [e65]
  exact ⟨rfl, N65⟩
set_option maxRecDepth 65536 in
set_option maxHeartbeats 40000000 in
theorem comes_1 {Post : Tables → Env → Array Value → State → Outcome → State → Prop} (hpost : ∀ tb e args s v u, (limb_1_1.after args s (.returned v) u = true ∧ limb_1_2.after args s (.returned v) u = true ∧ True) → FrameEnd s (.returned v) u (Jvm.fieldLocs frame_1_writes args s ++ Jvm.arrayLocs frame_1_arrays args s ++ Jvm.staticLocs frame_1_statics s) 24 256 → Post tb e args s (.returned v) u) :
    ArmFor flags0 classFile x code maxLocals ret World_1 tables_1 room_1 Calls_1 rest_1 Pre_1 Post := by
  intro l hfl _ _ p e ha hc hk s m args below hf hA hF happ hP
  obtain ⟨hcalls, hrest, hpre⟩ := hP
  obtain ⟨-, -, -, hnamed, -, -, -, hat⟩ := (Spec.applies_iff hf).mp happ
  obtain ⟨hg, hn⟩ := and_e (Cond.before_iff.mp (show (Jvm.Cond.and given_1 narrow_1).before args s = true from hpre))
  obtain ⟨q0, u0⟩ := and_e hg
  obtain ⟨w0, rfl⟩ : ∃ w0 : Value, args = #[w0] := by
    have hs : args.size = 1 := by simpa [Cond.value, given_1] using q0
    obtain ⟨L⟩ := args
    match L, hs with
    | [w0], _ => exact ⟨w0, rfl⟩
  have hw := fun d (hd : d ∈ tables_1) => atoms_spec (ws := Jvm.Cond.code x code maxLocals ret :: tables_1) hat d (List.mem_cons_of_mem _ hd)
  obtain ⟨i0, g0⟩ := is_v u0
  obtain rfl : w0 = (.int i0) := Option.some.inj g0
  obtain ⟨hsets, hown0⟩ := atoms_of _ (rest_1_c_eq ▸ (show rest_1_c.before _ s = true from hrest))
  have hs6 := Cond.before_iff.mp (hsets _ (List.mem_of_getElem? (i := 6) rfl))
  have hs8 := Cond.before_iff.mp (hsets _ (List.mem_of_getElem? (i := 8) rfl))
  obtain ⟨dv, edv⟩ := arr_v hs6
  have S_d : Sta s s.heap "java/util/ArrayList" "DEFAULTCAPACITY_EMPTY_ELEMENTDATA" "[Ljava/lang/Object;" (.ref dv) := Sta.start edv (Or.inr ⟨(hw _ (List.mem_of_getElem? (i := 30) rfl)), hsets _ (List.mem_of_getElem? (i := 2) rfl)⟩)
  have A_d : own_Ae s s.heap dv := own_Ae.start edv hs6 hs8
  obtain ⟨n, o, h1, h2, h3, _, L, rfl, ⟨rfl, N⟩, hq⟩ := rm0 l s _ hw tables_1 i0 dv s.heap s.heap.size (Nat.le_refl _) (Old.start s) S_d A_d  p e ha hc hk s m _ below hf ((Spec.applies_iff_loose hf).mp happ).1 ⟨rfl, State.Warmed39.refl s, rfl⟩ trivial
  refine ⟨n, _, h1, h2, h3, hpost _ _ _ _ _ _ ⟨Cond.after_iff.mpr rfl, Cond.after_iff.mpr (eq_i res_at (Term.int_eval (1)) rfl), trivial⟩ ⟨hq.1, hq.2.1, (hq.2.2.sift fun y hy => Or.inr (N y hy)).mono (by decide) (by decide)⟩⟩
theorem main_1_1 : Claimed_1_1 := comes_1 fun _ _ _ _ _ _ h hF => ⟨h.1, hF⟩
theorem main_1_2 : Claimed_1_2 := comes_1 fun _ _ _ _ _ _ h hF => ⟨h.2.1, hF⟩
end Jvm.Pilot.@@N@@
namespace Jvm.Pilot.@@N@@
open Jvm Jvm.ClassFile Sem Op Lib Jvm.Free Jvm.Stand Jvm.Pilot.@@N@@.Jvm.D
/-! MADE BY PROGRAM (witnessworld.py) out of the Statement's table words and the real class files: 20 classes; the members and pool entries that the words name. The judged class is class 1, her method 1. -/
namespace start1
open Jvm.ClassFile
def u (s : String) : CpInfo := .utf8 (stringToUtf16 s)
/-- a pool by its gaps: so many unusable entries, then the entry; so many at the end -/
def gap : Nat → List CpInfo → List CpInfo
  | 0, r => r
  | n + 1, r => .unusable :: gap n r
def poolList (es : List (Nat × CpInfo)) (last : Nat) : List CpInfo := es.foldr (fun e r => gap e.1 (e.2 :: r)) (gap last [])
def pool (es : List (Nat × CpInfo)) (last : Nat) : Array CpInfo := ⟨poolList es last⟩
def fileOf (pool : Array CpInfo) (this : Nat) (attrs : Array Attribute := #[]) (ms : Array MethodInfo := #[]) (fl : Nat := 33) (sup : Nat := 0) (ifs : Array Nat := #[]) (fds : Array FieldInfo := #[]) : ClassFile where
  minorVersion := 0
  majorVersion := 65
  constantPool := pool
  accessFlags := fl
  thisClass := this
  superClass := sup
  interfaces := ifs
  fields := fds
  methods := ms
  attributes := attrs
def plain (name : String) (sup : Option ClassId) : Class where
  name := name
  kind := .ordinary
  loader := none
  accessFlags := 33
  super := sup
  interfaces := #[]
  cf := none
  fields := #[]
  methods := #[]
  instanceTypes := #[]
  staticTypes := #[]
  resolved := #[]
  callSites := []
  init := .initialized
  statics := none
  mirror := none

def pool0 : Array CpInfo := pool [(5, u "<init>"), (0, u "()V"), (1, .class_ 10), (1, u "java/lang/Object")] 113

def k0c0 : Code := { maxStack := 0, maxLocals := 1, code := object_method_1_code, exceptionTable := #[], attributes := #[] }
def k0m0 : Method := { name := "<init>", desc := "()V", sig := { parameters := [], returnType := none }, accessFlags := 1, code := some k0c0 }
/-- java/lang/Object -/
def k0 : Class := { plain "java/lang/Object" none with
  accessFlags := 33
  interfaces := #[]
  cf := some (fileOf pool0 8 #[] #[{ accessFlags := 1, nameIndex := 5, descriptorIndex := 6, attributes := #[] }] 33 0 #[] #[])
  fields := #[]
  methods := #[k0m0]
  instanceTypes := #[]
  staticTypes := #[]
  resolved := Array.replicate 124 none
  statics := none }

def pool1 : Array CpInfo := pool [(2, .class_ 4), (1, u "java/lang/Object"), (0, u "<init>"), (0, u "()V"), (0, .integer 2147483647), (0, .class_ 9), (0, u "com/example/dispatchwire/dispatchwire/ndr/NdrWriter"), (0, .methodref 8 11), (0, .nameAndType 5 12), (0, u "(I)V"), (0, .methodref 8 14), (0, .nameAndType 15 16), (0, u "nextReferentId"), (0, u "()I"), (0, .integer 131072), (0, .integer 131076), (0, .integer 131080), (0, .integer 131084), (0, .methodref 8 22), (0, .nameAndType 23 16), (0, u "position"), (0, .class_ 25), (0, u "com/example/dispatchwire/dispatchwire/ndr/NdrWriterNextReferentIdPinLaw"), (2, u "law"), (0, u "(I)Z")] 3

def k1m0 : Method := { name := "<init>", desc := "()V", sig := { parameters := [], returnType := none }, accessFlags := 1, code := none }
def k1c1 : Code := { maxStack := 3, maxLocals := 7, code := code, exceptionTable := #[], attributes := #[] }
def k1m1 : Method := { name := "law", desc := "(I)Z", sig := { parameters := [.int], returnType := some .boolean }, accessFlags := 9, code := some k1c1 }
/-- com/example/dispatchwire/dispatchwire/ndr/NdrWriterNextReferentIdPinLaw -/
def k1 : Class := { plain "com/example/dispatchwire/dispatchwire/ndr/NdrWriterNextReferentIdPinLaw" (some 0) with
  accessFlags := 49
  interfaces := #[]
  cf := some (fileOf pool1 24 #[] #[{ accessFlags := 1, nameIndex := 5, descriptorIndex := 6, attributes := #[] }, { accessFlags := 9, nameIndex := 28, descriptorIndex := 29, attributes := #[] }] 49 2 #[] #[])
  fields := #[]
  methods := #[k1m0, k1m1]
  instanceTypes := #[]
  staticTypes := #[]
  resolved := Array.replicate 33 none
  statics := none }

def pool2 : Array CpInfo := pool [(1, .methodref 2 3), (0, .class_ 4), (0, .nameAndType 5 6), (0, u "com/example/dispatchwire/dispatchwire/ndr/NdrWriter"), (0, u "<init>"), (0, u "(IZ)V"), (0, .methodref 8 9), (0, .class_ 10), (0, .nameAndType 5 11), (0, u "java/lang/Object"), (0, u "()V"), (0, .integer 131072), (0, .fieldref 2 14), (0, .nameAndType 15 16), (0, u "nextReferentId"), (0, u "I"), (9, .fieldref 2 27), (0, .nameAndType 28 16), (0, u "start"), (0, .fieldref 2 30), (0, .nameAndType 31 32), (0, u "aligned"), (0, u "Z"), (0, .class_ 34), (0, u "com/example/dispatchwire/dispatchwire/ndr/NdrWriter$ChunkedBuffer"), (2, .integer 2147483647), (0, .methodref 33 39), (0, .nameAndType 5 40), (0, u "(I)V"), (0, .fieldref 2 42), (0, .nameAndType 43 44), (0, u "buffer"), (0, u "Lcom/example/dispatchwire/dispatchwire/ndr/NdrWriter$ChunkedBuffer;"), (0, .methodref 33 46), (0, .nameAndType 47 48), (0, u "size"), (0, u "()I"), (2, u "position"), (106, u "depth"), (19, u "FIRST_REFERENT_ID")] 59

def k2c0 : Code := { maxStack := 3, maxLocals := 2, code := prog_59_method_1_code, exceptionTable := #[], attributes := #[] }
def k2m0 : Method := { name := "<init>", desc := "(I)V", sig := { parameters := [.int], returnType := none }, accessFlags := 1, code := some k2c0 }
def k2c1 : Code := { maxStack := 5, maxLocals := 3, code := prog_59_method_2_code, exceptionTable := #[], attributes := #[] }
def k2m1 : Method := { name := "<init>", desc := "(IZ)V", sig := { parameters := [.int, .boolean], returnType := none }, accessFlags := 2, code := some k2c1 }
def k2c2 : Code := { maxStack := 2, maxLocals := 1, code := prog_59_method_4_code, exceptionTable := #[], attributes := #[] }
def k2m2 : Method := { name := "position", desc := "()I", sig := { parameters := [], returnType := some .int }, accessFlags := 1, code := some k2c2 }
def k2c3 : Code := { maxStack := 3, maxLocals := 2, code := prog_59_method_21_code, exceptionTable := #[], attributes := #[] }
def k2m3 : Method := { name := "nextReferentId", desc := "()I", sig := { parameters := [], returnType := some .int }, accessFlags := 1, code := some k2c3 }
/-- com/example/dispatchwire/dispatchwire/ndr/NdrWriter -/
def k2 : Class := { plain "com/example/dispatchwire/dispatchwire/ndr/NdrWriter" (some 0) with
  accessFlags := 49
  interfaces := #[]
  cf := some (fileOf pool2 2 #[.nestMembers #[33]] #[{ accessFlags := 1, nameIndex := 5, descriptorIndex := 40, attributes := #[] }, { accessFlags := 2, nameIndex := 5, descriptorIndex := 6, attributes := #[] }, { accessFlags := 1, nameIndex := 51, descriptorIndex := 48, attributes := #[] }, { accessFlags := 1, nameIndex := 15, descriptorIndex := 48, attributes := #[] }] 49 8 #[] #[{ accessFlags := 26, nameIndex := 178, descriptorIndex := 16, attributes := #[] }, { accessFlags := 18, nameIndex := 28, descriptorIndex := 16, attributes := #[] }, { accessFlags := 18, nameIndex := 31, descriptorIndex := 32, attributes := #[] }, { accessFlags := 18, nameIndex := 43, descriptorIndex := 44, attributes := #[] }, { accessFlags := 2, nameIndex := 15, descriptorIndex := 16, attributes := #[] }, { accessFlags := 2, nameIndex := 158, descriptorIndex := 16, attributes := #[] }])
  fields := #[{ name := "FIRST_REFERENT_ID", type := .int, accessFlags := 26, slot := 0, constantValue := 0 }, { name := "start", type := .int, accessFlags := 18, slot := 0, constantValue := 0 }, { name := "aligned", type := .boolean, accessFlags := 18, slot := 1, constantValue := 0 }, { name := "buffer", type := (.object "com/example/dispatchwire/dispatchwire/ndr/NdrWriter$ChunkedBuffer"), accessFlags := 18, slot := 2, constantValue := 0 }, { name := "nextReferentId", type := .int, accessFlags := 2, slot := 3, constantValue := 0 }, { name := "depth", type := .int, accessFlags := 2, slot := 4, constantValue := 0 }]
  methods := #[k2m0, k2m1, k2m2, k2m3]
  instanceTypes := #[.int, .boolean, (.object "com/example/dispatchwire/dispatchwire/ndr/NdrWriter$ChunkedBuffer"), .int, .int]
  staticTypes := #[.int]
  resolved := Array.replicate 238 none
  statics := none }

def pool3 : Array CpInfo := pool [(1, .methodref 2 3), (0, .class_ 4), (0, .nameAndType 5 6), (0, u "java/lang/Object"), (0, u "<init>"), (0, u "()V"), (0, .class_ 8), (0, u "java/util/ArrayList"), (0, .methodref 7 3), (0, .fieldref 11 12), (0, .class_ 13), (0, .nameAndType 14 15), (0, u "com/example/dispatchwire/dispatchwire/ndr/NdrWriter$ChunkedBuffer"), (0, u "chunks"), (0, u "Ljava/util/List;"), (0, .fieldref 11 17), (0, .nameAndType 18 19), (0, u "limit"), (0, u "I"), (0, .methodref 21 22), (0, .class_ 23), (0, .nameAndType 24 25), (0, u "java/lang/Math"), (0, u "min"), (0, u "(II)I"), (0, .fieldref 11 27), (0, .nameAndType 28 29), (0, u "chunk"), (0, u "[B"), (0, .interfaceMethodref 31 32), (0, .class_ 33), (0, .nameAndType 34 35), (0, u "java/util/List"), (0, u "add"), (0, u "(Ljava/lang/Object;)Z"), (0, .fieldref 11 37), (0, .nameAndType 38 19), (0, u "filled"), (0, .fieldref 11 40), (0, .nameAndType 41 19), (0, u "used"), (2, u "size"), (0, u "()I"), (50, u "FIRST_CHUNK"), (2, u "MAX_CHUNK"), (3, u "(I)V"), (12, .class_ 117), (0, u "com/example/dispatchwire/dispatchwire/ndr/NdrWriter")] 2

def k3c0 : Code := { maxStack := 3, maxLocals := 2, code := prog_60_method_1_code, exceptionTable := #[], attributes := #[] }
def k3m0 : Method := { name := "<init>", desc := "(I)V", sig := { parameters := [.int], returnType := none }, accessFlags := 0, code := some k3c0 }
def k3c1 : Code := { maxStack := 2, maxLocals := 1, code := prog_60_method_2_code, exceptionTable := #[], attributes := #[] }
def k3m1 : Method := { name := "size", desc := "()I", sig := { parameters := [], returnType := some .int }, accessFlags := 0, code := some k3c1 }
/-- com/example/dispatchwire/dispatchwire/ndr/NdrWriter$ChunkedBuffer -/
def k3 : Class := { plain "com/example/dispatchwire/dispatchwire/ndr/NdrWriter$ChunkedBuffer" (some 0) with
  accessFlags := 48
  interfaces := #[]
  cf := some (fileOf pool3 11 #[.nestHost 116] #[{ accessFlags := 0, nameIndex := 5, descriptorIndex := 103, attributes := #[] }, { accessFlags := 0, nameIndex := 44, descriptorIndex := 45, attributes := #[] }] 48 2 #[] #[{ accessFlags := 26, nameIndex := 96, descriptorIndex := 19, attributes := #[] }, { accessFlags := 26, nameIndex := 99, descriptorIndex := 19, attributes := #[] }, { accessFlags := 18, nameIndex := 18, descriptorIndex := 19, attributes := #[] }, { accessFlags := 18, nameIndex := 14, descriptorIndex := 15, attributes := #[] }, { accessFlags := 2, nameIndex := 28, descriptorIndex := 29, attributes := #[] }, { accessFlags := 2, nameIndex := 38, descriptorIndex := 19, attributes := #[] }, { accessFlags := 2, nameIndex := 41, descriptorIndex := 19, attributes := #[] }])
  fields := #[{ name := "FIRST_CHUNK", type := .int, accessFlags := 26, slot := 0, constantValue := 0 }, { name := "MAX_CHUNK", type := .int, accessFlags := 26, slot := 1, constantValue := 0 }, { name := "limit", type := .int, accessFlags := 18, slot := 0, constantValue := 0 }, { name := "chunks", type := (.object "java/util/List"), accessFlags := 18, slot := 1, constantValue := 0 }, { name := "chunk", type := (.array .byte), accessFlags := 2, slot := 2, constantValue := 0 }, { name := "filled", type := .int, accessFlags := 2, slot := 3, constantValue := 0 }, { name := "used", type := .int, accessFlags := 2, slot := 4, constantValue := 0 }]
  methods := #[k3m0, k3m1]
  instanceTypes := #[.int, (.object "java/util/List"), (.array .byte), .int, .int]
  staticTypes := #[.int, .int]
  resolved := Array.replicate 120 none
  statics := none }

def pool4 : Array CpInfo := pool [(8, .class_ 10), (1, u "java/lang/Iterable"), (24, .class_ 36), (0, u "java/lang/Object")] 25

/-- java/lang/Iterable -/
def k4 : Class := { plain "java/lang/Iterable" (some 0) with
  accessFlags := 1537
  interfaces := #[]
  cf := some (fileOf pool4 8 #[] #[] 1537 35 #[] #[])
  fields := #[]
  methods := #[]
  instanceTypes := #[]
  staticTypes := #[]
  resolved := Array.replicate 62 none
  statics := none }

def pool5 : Array CpInfo := pool [(10, .class_ 12), (1, u "java/util/Collection"), (47, .class_ 61), (0, u "java/lang/Object"), (0, .class_ 63), (0, u "java/lang/Iterable")] 51

/-- java/util/Collection -/
def k5 : Class := { plain "java/util/Collection" (some 0) with
  accessFlags := 1537
  interfaces := #[4]
  cf := some (fileOf pool5 10 #[] #[] 1537 60 #[62] #[])
  fields := #[]
  methods := #[]
  instanceTypes := #[]
  staticTypes := #[]
  resolved := Array.replicate 115 none
  statics := none }

def pool6 : Array CpInfo := pool [(1, .methodref 2 3), (0, .class_ 4), (0, .nameAndType 5 6), (0, u "java/lang/Object"), (0, u "<init>"), (0, u "()V"), (1, .class_ 10), (1, u "java/util/AbstractCollection"), (66, .class_ 78), (0, u "java/util/Collection")] 81

def k6c0 : Code := { maxStack := 1, maxLocals := 1, code := jdk_22_method_1_code, exceptionTable := #[], attributes := #[] }
def k6m0 : Method := { name := "<init>", desc := "()V", sig := { parameters := [], returnType := none }, accessFlags := 4, code := some k6c0 }
/-- java/util/AbstractCollection -/
def k6 : Class := { plain "java/util/AbstractCollection" (some 0) with
  accessFlags := 1057
  interfaces := #[5]
  cf := some (fileOf pool6 8 #[] #[{ accessFlags := 4, nameIndex := 5, descriptorIndex := 6, attributes := #[] }] 1057 2 #[77] #[])
  fields := #[]
  methods := #[k6m0]
  instanceTypes := #[]
  staticTypes := #[]
  resolved := Array.replicate 160 none
  statics := none }

def pool7 : Array CpInfo := pool [(8, .class_ 10), (1, u "java/util/SequencedCollection"), (15, .class_ 27), (0, u "java/lang/Object"), (0, .class_ 29), (0, u "java/util/Collection")] 27

/-- java/util/SequencedCollection -/
def k7 : Class := { plain "java/util/SequencedCollection" (some 0) with
  accessFlags := 1537
  interfaces := #[5]
  cf := some (fileOf pool7 8 #[] #[] 1537 26 #[28] #[])
  fields := #[]
  methods := #[]
  instanceTypes := #[]
  staticTypes := #[]
  resolved := Array.replicate 57 none
  statics := none }

def pool8 : Array CpInfo := pool [(8, .class_ 10), (1, u "java/util/List"), (49, u "add"), (3, u "(Ljava/lang/Object;)Z"), (38, .class_ 104), (0, u "java/lang/Object"), (15, .class_ 121), (0, u "java/util/SequencedCollection")] 129

def k8m0 : Method := { name := "add", desc := "(Ljava/lang/Object;)Z", sig := { parameters := [(.object "java/lang/Object")], returnType := some .boolean }, accessFlags := 1025, code := none }
/-- java/util/List -/
def k8 : Class := { plain "java/util/List" (some 0) with
  accessFlags := 1537
  interfaces := #[7]
  cf := some (fileOf pool8 8 #[] #[{ accessFlags := 1025, nameIndex := 60, descriptorIndex := 64, attributes := #[] }] 1537 103 #[120] #[])
  fields := #[]
  methods := #[k8m0]
  instanceTypes := #[]
  staticTypes := #[]
  resolved := Array.replicate 251 none
  statics := none }

def pool9 : Array CpInfo := pool [(1, .methodref 2 3), (0, .class_ 4), (0, .nameAndType 5 6), (0, u "java/util/AbstractCollection"), (0, u "<init>"), (0, u "()V"), (0, .fieldref 8 9), (0, .class_ 10), (0, .nameAndType 11 12), (0, u "java/util/AbstractList"), (0, u "modCount"), (0, u "I"), (64, .class_ 78), (0, u "java/util/AbstractList$Itr"), (3, .class_ 83), (0, u "java/util/AbstractList$ListItr"), (9, .class_ 94), (0, u "java/util/AbstractList$RandomAccessSubList"), (3, .class_ 99), (0, u "java/util/AbstractList$SubList"), (33, .class_ 134), (0, u "java/util/List"), (73, .class_ 209), (0, u "java/util/AbstractList$SubList$1"), (0, .class_ 211), (0, u "java/util/AbstractList$RandomAccessSpliterator")] 6

def k9c0 : Code := { maxStack := 2, maxLocals := 1, code := jdk_39_method_1_code, exceptionTable := #[], attributes := #[] }
def k9m0 : Method := { name := "<init>", desc := "()V", sig := { parameters := [], returnType := none }, accessFlags := 4, code := some k9c0 }
/-- java/util/AbstractList -/
def k9 : Class := { plain "java/util/AbstractList" (some 6) with
  accessFlags := 1057
  interfaces := #[8]
  cf := some (fileOf pool9 8 #[.nestMembers #[93, 98, 208, 210, 82, 77]] #[{ accessFlags := 4, nameIndex := 5, descriptorIndex := 6, attributes := #[] }] 1057 2 #[133] #[{ accessFlags := 132, nameIndex := 11, descriptorIndex := 12, attributes := #[] }])
  fields := #[{ name := "modCount", type := .int, accessFlags := 132, slot := 0, constantValue := 0 }]
  methods := #[k9m0]
  instanceTypes := #[.int]
  staticTypes := #[]
  resolved := Array.replicate 218 none
  statics := none }

def pool10 : Array CpInfo := pool [(1, .class_ 2), (0, u "java/util/RandomAccess"), (0, .class_ 4), (0, u "java/lang/Object")] 2

/-- java/util/RandomAccess -/
def k10 : Class := { plain "java/util/RandomAccess" (some 0) with
  accessFlags := 1537
  interfaces := #[]
  cf := some (fileOf pool10 1 #[] #[] 1537 3 #[] #[])
  fields := #[]
  methods := #[]
  instanceTypes := #[]
  staticTypes := #[]
  resolved := Array.replicate 7 none
  statics := none }

def pool11 : Array CpInfo := pool [(1, .class_ 2), (0, u "java/lang/Cloneable"), (0, .class_ 4), (0, u "java/lang/Object")] 2

/-- java/lang/Cloneable -/
def k11 : Class := { plain "java/lang/Cloneable" (some 0) with
  accessFlags := 1537
  interfaces := #[]
  cf := some (fileOf pool11 1 #[] #[] 1537 3 #[] #[])
  fields := #[]
  methods := #[]
  instanceTypes := #[]
  staticTypes := #[]
  resolved := Array.replicate 7 none
  statics := none }

def pool12 : Array CpInfo := pool [(1, .class_ 2), (0, u "java/io/Serializable"), (0, .class_ 4), (0, u "java/lang/Object")] 2

/-- java/io/Serializable -/
def k12 : Class := { plain "java/io/Serializable" (some 0) with
  accessFlags := 1537
  interfaces := #[]
  cf := some (fileOf pool12 1 #[] #[] 1537 3 #[] #[])
  fields := #[]
  methods := #[]
  instanceTypes := #[]
  staticTypes := #[]
  resolved := Array.replicate 7 none
  statics := none }

def pool13 : Array CpInfo := pool [(1, .methodref 2 3), (0, .class_ 4), (0, .nameAndType 5 6), (0, u "java/util/AbstractList"), (0, u "<init>"), (0, u "()V"), (0, .class_ 8), (0, u "java/lang/Object"), (0, .fieldref 10 11), (0, .class_ 12), (0, .nameAndType 13 14), (0, u "java/util/ArrayList"), (0, u "elementData"), (0, u "[Ljava/lang/Object;"), (2, u "EMPTY_ELEMENTDATA"), (21, .fieldref 10 40), (0, .nameAndType 41 14), (0, u "DEFAULTCAPACITY_EMPTY_ELEMENTDATA"), (5, u "()[Ljava/lang/Object;"), (0, .fieldref 10 49), (0, .nameAndType 50 51), (0, u "size"), (0, u "I"), (11, .fieldref 10 64), (0, .nameAndType 65 51), (0, u "modCount"), (3, .methodref 10 70), (0, .nameAndType 71 72), (0, u "grow"), (0, u "(I)[Ljava/lang/Object;"), (6, .methodref 80 81), (0, .class_ 82), (0, .nameAndType 83 84), (0, u "java/lang/Math"), (0, u "max"), (0, u "(II)I"), (11, u "(Ljava/lang/Object;)Z"), (32, .methodref 10 130), (0, .nameAndType 71 47), (0, .methodref 10 132), (0, .nameAndType 133 134), (0, u "add"), (0, u "(Ljava/lang/Object;[Ljava/lang/Object;I)V"), (13, .class_ 149), (0, u "java/util/List"), (112, .class_ 263), (0, u "java/util/ArrayList$ListItr"), (3, .class_ 268), (0, u "java/util/ArrayList$Itr"), (7, .class_ 277), (0, u "java/util/ArrayList$SubList"), (12, .class_ 291), (0, u "java/util/ArrayList$ArrayListSpliterator"), (37, .class_ 330), (0, u "java/util/RandomAccess"), (0, .class_ 332), (0, u "java/lang/Cloneable"), (0, .class_ 334), (0, u "java/io/Serializable"), (0, u "serialVersionUID"), (0, u "J"), (3, u "DEFAULT_CAPACITY"), (159, .class_ 501), (0, u "java/util/ArrayList$SubList$2"), (0, .class_ 503), (0, u "java/util/ArrayList$SubList$1")] 5

def k13c0 : Code := { maxStack := 2, maxLocals := 1, code := jdk_38_method_2_code, exceptionTable := #[], attributes := #[] }
def k13m0 : Method := { name := "<init>", desc := "()V", sig := { parameters := [], returnType := none }, accessFlags := 1, code := some k13c0 }
def k13c1 : Code := { maxStack := 4, maxLocals := 4, code := jdk_38_method_6_code, exceptionTable := #[], attributes := #[] }
def k13m1 : Method := { name := "grow", desc := "(I)[Ljava/lang/Object;", sig := { parameters := [.int], returnType := some (.array (.object "java/lang/Object")) }, accessFlags := 2, code := some k13c1 }
def k13c2 : Code := { maxStack := 3, maxLocals := 1, code := jdk_38_method_7_code, exceptionTable := #[], attributes := #[] }
def k13m2 : Method := { name := "grow", desc := "()[Ljava/lang/Object;", sig := { parameters := [], returnType := some (.array (.object "java/lang/Object")) }, accessFlags := 2, code := some k13c2 }
def k13c3 : Code := { maxStack := 3, maxLocals := 4, code := jdk_38_method_24_code, exceptionTable := #[], attributes := #[] }
def k13m3 : Method := { name := "add", desc := "(Ljava/lang/Object;[Ljava/lang/Object;I)V", sig := { parameters := [(.object "java/lang/Object"), (.array (.object "java/lang/Object")), .int], returnType := none }, accessFlags := 2, code := some k13c3 }
def k13c4 : Code := { maxStack := 4, maxLocals := 2, code := jdk_38_method_25_code, exceptionTable := #[], attributes := #[] }
def k13m4 : Method := { name := "add", desc := "(Ljava/lang/Object;)Z", sig := { parameters := [(.object "java/lang/Object")], returnType := some .boolean }, accessFlags := 1, code := some k13c4 }
/-- java/util/ArrayList -/
def k13 : Class := { plain "java/util/ArrayList" (some 9) with
  accessFlags := 33
  interfaces := #[8, 10, 11, 12]
  cf := some (fileOf pool13 10 #[.nestMembers #[290, 276, 500, 502, 262, 267]] #[{ accessFlags := 1, nameIndex := 5, descriptorIndex := 6, attributes := #[] }, { accessFlags := 2, nameIndex := 71, descriptorIndex := 72, attributes := #[] }, { accessFlags := 2, nameIndex := 71, descriptorIndex := 47, attributes := #[] }, { accessFlags := 2, nameIndex := 133, descriptorIndex := 134, attributes := #[] }, { accessFlags := 1, nameIndex := 133, descriptorIndex := 96, attributes := #[] }] 33 2 #[148, 329, 331, 333] #[{ accessFlags := 26, nameIndex := 335, descriptorIndex := 336, attributes := #[] }, { accessFlags := 26, nameIndex := 340, descriptorIndex := 51, attributes := #[] }, { accessFlags := 26, nameIndex := 17, descriptorIndex := 14, attributes := #[] }, { accessFlags := 26, nameIndex := 41, descriptorIndex := 14, attributes := #[] }, { accessFlags := 128, nameIndex := 13, descriptorIndex := 14, attributes := #[] }, { accessFlags := 2, nameIndex := 50, descriptorIndex := 51, attributes := #[] }])
  fields := #[{ name := "serialVersionUID", type := .long, accessFlags := 26, slot := 0, constantValue := 0 }, { name := "DEFAULT_CAPACITY", type := .int, accessFlags := 26, slot := 1, constantValue := 0 }, { name := "EMPTY_ELEMENTDATA", type := (.array (.object "java/lang/Object")), accessFlags := 26, slot := 2, constantValue := 0 }, { name := "DEFAULTCAPACITY_EMPTY_ELEMENTDATA", type := (.array (.object "java/lang/Object")), accessFlags := 26, slot := 3, constantValue := 0 }, { name := "elementData", type := (.array (.object "java/lang/Object")), accessFlags := 128, slot := 1, constantValue := 0 }, { name := "size", type := .int, accessFlags := 2, slot := 2, constantValue := 0 }]
  methods := #[k13m0, k13m1, k13m2, k13m3, k13m4]
  instanceTypes := #[.int, (.array (.object "java/lang/Object")), .int]
  staticTypes := #[.long, .int, (.array (.object "java/lang/Object")), (.array (.object "java/lang/Object"))]
  resolved := Array.replicate 509 none
  statics := some 0 }

def pool14 : Array CpInfo := pool [(1, .class_ 2), (0, u "java/lang/Math"), (1, .class_ 6), (1, u "java/lang/Object"), (0, u "<init>"), (0, u "()V"), (89, .class_ 100), (1, u "java/lang/Math$RandomNumberGeneratorHolder"), (71, u "negativeZeroFloatBits"), (0, u "J"), (2, u "negativeZeroDoubleBits"), (21, u "max"), (2, u "min"), (43, u "$assertionsDisabled"), (0, u "Z"), (88, u "(II)I"), (2, u "twoToTheDoubleScaleDown"), (0, u "D"), (4, u "twoToTheDoubleScaleUp"), (9, u "E"), (3, u "PI"), (2, u "TAU"), (2, u "DEGREES_TO_RADIANS"), (0, u "RADIANS_TO_DEGREES")] 94

def k14m0 : Method := { name := "<init>", desc := "()V", sig := { parameters := [], returnType := none }, accessFlags := 2, code := none }
def k14c1 : Code := { maxStack := 2, maxLocals := 2, code := jdk_29_method_65_code, exceptionTable := #[], attributes := #[] }
def k14m1 : Method := { name := "max", desc := "(II)I", sig := { parameters := [.int, .int], returnType := some .int }, accessFlags := 9, code := some k14c1 }
def k14c2 : Code := { maxStack := 2, maxLocals := 2, code := jdk_29_method_69_code, exceptionTable := #[], attributes := #[] }
def k14m2 : Method := { name := "min", desc := "(II)I", sig := { parameters := [.int, .int], returnType := some .int }, accessFlags := 9, code := some k14c2 }
/-- java/lang/Math -/
def k14 : Class := { plain "java/lang/Math" (some 0) with
  accessFlags := 49
  interfaces := #[]
  cf := some (fileOf pool14 1 #[.nestMembers #[98]] #[{ accessFlags := 2, nameIndex := 7, descriptorIndex := 8, attributes := #[] }, { accessFlags := 9, nameIndex := 198, descriptorIndex := 335, attributes := #[] }, { accessFlags := 9, nameIndex := 201, descriptorIndex := 335, attributes := #[] }] 49 4 #[] #[{ accessFlags := 25, nameIndex := 354, descriptorIndex := 339, attributes := #[] }, { accessFlags := 25, nameIndex := 358, descriptorIndex := 339, attributes := #[] }, { accessFlags := 25, nameIndex := 361, descriptorIndex := 339, attributes := #[] }, { accessFlags := 26, nameIndex := 364, descriptorIndex := 339, attributes := #[] }, { accessFlags := 26, nameIndex := 365, descriptorIndex := 339, attributes := #[] }, { accessFlags := 26, nameIndex := 172, descriptorIndex := 173, attributes := #[] }, { accessFlags := 26, nameIndex := 176, descriptorIndex := 173, attributes := #[] }, { accessFlags := 8, nameIndex := 344, descriptorIndex := 339, attributes := #[] }, { accessFlags := 8, nameIndex := 338, descriptorIndex := 339, attributes := #[] }, { accessFlags := 4120, nameIndex := 245, descriptorIndex := 246, attributes := #[] }])
  fields := #[{ name := "E", type := .double, accessFlags := 25, slot := 0, constantValue := 0 }, { name := "PI", type := .double, accessFlags := 25, slot := 1, constantValue := 0 }, { name := "TAU", type := .double, accessFlags := 25, slot := 2, constantValue := 0 }, { name := "DEGREES_TO_RADIANS", type := .double, accessFlags := 26, slot := 3, constantValue := 0 }, { name := "RADIANS_TO_DEGREES", type := .double, accessFlags := 26, slot := 4, constantValue := 0 }, { name := "negativeZeroFloatBits", type := .long, accessFlags := 26, slot := 5, constantValue := 0 }, { name := "negativeZeroDoubleBits", type := .long, accessFlags := 26, slot := 6, constantValue := 0 }, { name := "twoToTheDoubleScaleUp", type := .double, accessFlags := 8, slot := 7, constantValue := 0 }, { name := "twoToTheDoubleScaleDown", type := .double, accessFlags := 8, slot := 8, constantValue := 0 }, { name := "$assertionsDisabled", type := .boolean, accessFlags := 4120, slot := 9, constantValue := 0 }]
  methods := #[k14m0, k14m1, k14m2]
  instanceTypes := #[]
  staticTypes := #[.double, .double, .double, .double, .double, .long, .long, .double, .double, .boolean]
  resolved := Array.replicate 460 none
  statics := none }

/-- the primitive byte -/
def k15 : Class := { plain "byte" none with kind := .primitive 'B', accessFlags := 0x411 }
/-- [B -/
def k16 : Class := { plain "[B" (some 0) with kind := .array 15 .byte, interfaces := #[11, 12], accessFlags := 1041 }

/-- the primitive int -/
def k17 : Class := { plain "int" none with kind := .primitive 'I', accessFlags := 0x411 }
/-- [I -/
def k18 : Class := { plain "[I" (some 0) with kind := .array 17 .int, interfaces := #[11, 12], accessFlags := 1041 }

/-- [Ljava/lang/Object; -/
def k19 : Class := { plain "[Ljava/lang/Object;" (some 0) with kind := .array 0 (.object "java/lang/Object"), interfaces := #[11, 12], accessFlags := 1041 }

def heap : Heap := #[{ cls := 13, slots := #[.long 0, .int 0, .ref 1, .ref 2], vm := .statics 13 },
  { cls := 19, slots := #[], vm := .none },
  { cls := 19, slots := #[], vm := .none }]
def classes : Array Class := #[k0, k1, k2, k3, k4, k5, k6, k7, k8, k9, k10, k11, k12, k13, k14, k15, k16, k17, k18, k19]
def interned : List (Array UInt16 × Addr) := []
def slotsUsed : Nat := 4
def theMethod : MethodId := ⟨1, 1⟩
def args0 : Array Value := #[.int 5]
def aboutOver (below : List Frame) : State where
  vm := { classes := classes, interned := interned.toArray }
  heap := heap
  slotsUsed := slotsUsed
  threads := #[{ frames := .invoking theMethod args0 :: below }]
def below0 : List Frame := [.native { method := ⟨0, 0⟩, args := #[] }]
def about1 : State := aboutOver below0
def p0 : Program := .bare "" "" ""
def e0 : Env := launch0.env 0 0 0
theorem w_frames : about1.frames = Frame.invoking theMethod args0 :: below0 := rfl
set_option maxRecDepth 65536 in
theorem w_args : argsFit about1.vm theMethod args0 = true := by decide +kernel
set_option maxRecDepth 65536 in
theorem w_heap : heapFits about1 = true := by decide +kernel
set_option maxRecDepth 65536 in
theorem w_runnable : about1.curStatus? = some .runnable := by decide +kernel
set_option maxRecDepth 65536 in
theorem w_alone : about1.alone = true := by decide +kernel
set_option maxRecDepth 65536 in
theorem w_named : about1.methodNamed? x = some theMethod := by decide +kernel
set_option maxRecDepth 65536 in
theorem w_hears : about1.hears theMethod below0 = true := by decide +kernel
set_option maxRecDepth 65536 in
theorem w_ripe : about1.ripe theMethod args0 below0 = true := by decide +kernel
theorem w_running : about1.status = .running := rfl
set_option maxRecDepth 65536 in
theorem w_room : about1.hasRoom e0.platform room_1 = true :=
  launch0.hasRoom_least _ room_1 (by decide +kernel) (by decide +kernel) (by decide +kernel) (by decide +kernel) (by decide +kernel) (by decide +kernel)
theorem allAtoms_all (ts : List Jvm.Cond) (a : Array Jvm.Value) (st : Jvm.State) : (allAtoms ts).before a st = ts.all (fun c => c.before a st) := by
  induction ts with
  | nil => rfl
  | cons c t ih =>
    show (Jvm.Cond.and c (allAtoms t)).before a st = _
    rw [Jvm.Cond.before_and, ih, List.all_cons]
def words1 : List Jvm.Cond := Jvm.Cond.code x code maxLocals ret :: tables_1
/-- a 'code' word, met by the world's own term for the bytes: nothing is compared byte by byte -/
theorem code_word {y : MethodName} {bytes : ByteArray} {mx : Nat} {rt : Option FieldType} {a : Array Value} {s : State} {m : MethodId} {meth : Method} {c : Code} (h1 : s.methodNamed? y = some m) (h2 : s.vm.method? m = some meth) (h3 : meth.code = some c) (h4 : c.code = bytes)
    (h5 : (c.maxLocals == mx && c.exceptionTable.isEmpty && decide (c.maxStack ≤ mostOperands) && decide (meth.sig.returnType = rt) && !meth.locks && decide (parseMethodDescriptor y.desc = some meth.sig)) = true) : (Jvm.Cond.code y bytes mx rt).before a s = true := by
  simp only [Bool.and_eq_true, beq_iff_eq, Bool.not_eq_true', decide_eq_true_eq] at h5
  obtain ⟨⟨⟨⟨⟨g1, g2⟩, g3⟩, g4⟩, g5⟩, g6⟩ := h5
  simp [Cond.before, Cond.holds, Cond.value, h1, h2, h3, h4, g1, g2, g3, g4, g5, g6]
def isCode : Jvm.Cond → Bool
  | .code _ _ _ _ => true
  | _ => false
theorem all_split {L : List Jvm.Cond} {P : Jvm.Cond → Bool} (h1 : L.all (fun c => isCode c || P c) = true) (h2 : ∀ c ∈ L.filter isCode, P c = true) : L.all P = true := by
  refine List.all_eq_true.mpr fun c hc => ?_
  have h := List.all_eq_true.mp h1 c hc
  rcases Bool.eq_false_or_eq_true (isCode c) with hi | hi
  · exact h2 c (List.mem_filter.mpr ⟨hc, hi⟩)
  · simpa [hi] using h
set_option maxRecDepth 65536 in
theorem w_c0 : (Jvm.Cond.code x code maxLocals ret).before args0 about1 = true := code_word (m := ⟨1, 1⟩) (meth := k1m1) (c := k1c1) (by decide +kernel) rfl rfl rfl (by decide +kernel)
set_option maxRecDepth 65536 in
theorem w_c1 : (Jvm.Cond.code ({ cls := "com/example/dispatchwire/dispatchwire/ndr/NdrWriter", name := "<init>", desc := "(I)V" } : Jvm.MethodName) prog_59_method_1_code (2 : Nat) (Option.none : Option Jvm.ClassFile.FieldType)).before args0 about1 = true := code_word (m := ⟨2, 0⟩) (meth := k2m0) (c := k2c0) (by decide +kernel) rfl rfl rfl (by decide +kernel)
set_option maxRecDepth 65536 in
theorem w_c2 : (Jvm.Cond.code ({ cls := "com/example/dispatchwire/dispatchwire/ndr/NdrWriter", name := "<init>", desc := "(IZ)V" } : Jvm.MethodName) prog_59_method_2_code (3 : Nat) (Option.none : Option Jvm.ClassFile.FieldType)).before args0 about1 = true := code_word (m := ⟨2, 1⟩) (meth := k2m1) (c := k2c1) (by decide +kernel) rfl rfl rfl (by decide +kernel)
set_option maxRecDepth 65536 in
theorem w_c3 : (Jvm.Cond.code ({ cls := "java/lang/Object", name := "<init>", desc := "()V" } : Jvm.MethodName) object_method_1_code (1 : Nat) (Option.none : Option Jvm.ClassFile.FieldType)).before args0 about1 = true := code_word (m := ⟨0, 0⟩) (meth := k0m0) (c := k0c0) (by decide +kernel) rfl rfl rfl (by decide +kernel)
set_option maxRecDepth 65536 in
theorem w_c4 : (Jvm.Cond.code ({ cls := "com/example/dispatchwire/dispatchwire/ndr/NdrWriter$ChunkedBuffer", name := "<init>", desc := "(I)V" } : Jvm.MethodName) prog_60_method_1_code (2 : Nat) (Option.none : Option Jvm.ClassFile.FieldType)).before args0 about1 = true := code_word (m := ⟨3, 0⟩) (meth := k3m0) (c := k3c0) (by decide +kernel) rfl rfl rfl (by decide +kernel)
set_option maxRecDepth 65536 in
theorem w_c5 : (Jvm.Cond.code ({ cls := "java/util/ArrayList", name := "<init>", desc := "()V" } : Jvm.MethodName) jdk_38_method_2_code (1 : Nat) (Option.none : Option Jvm.ClassFile.FieldType)).before args0 about1 = true := code_word (m := ⟨13, 0⟩) (meth := k13m0) (c := k13c0) (by decide +kernel) rfl rfl rfl (by decide +kernel)
set_option maxRecDepth 65536 in
theorem w_c6 : (Jvm.Cond.code ({ cls := "java/util/AbstractList", name := "<init>", desc := "()V" } : Jvm.MethodName) jdk_39_method_1_code (1 : Nat) (Option.none : Option Jvm.ClassFile.FieldType)).before args0 about1 = true := code_word (m := ⟨9, 0⟩) (meth := k9m0) (c := k9c0) (by decide +kernel) rfl rfl rfl (by decide +kernel)
set_option maxRecDepth 65536 in
theorem w_c7 : (Jvm.Cond.code ({ cls := "java/util/AbstractCollection", name := "<init>", desc := "()V" } : Jvm.MethodName) jdk_22_method_1_code (1 : Nat) (Option.none : Option Jvm.ClassFile.FieldType)).before args0 about1 = true := code_word (m := ⟨6, 0⟩) (meth := k6m0) (c := k6c0) (by decide +kernel) rfl rfl rfl (by decide +kernel)
set_option maxRecDepth 65536 in
theorem w_c8 : (Jvm.Cond.code ({ cls := "java/lang/Math", name := "min", desc := "(II)I" } : Jvm.MethodName) jdk_29_method_69_code (2 : Nat) (Option.some Jvm.ClassFile.FieldType.int)).before args0 about1 = true := code_word (m := ⟨14, 2⟩) (meth := k14m2) (c := k14c2) (by decide +kernel) rfl rfl rfl (by decide +kernel)
set_option maxRecDepth 65536 in
theorem w_c9 : (Jvm.Cond.code ({ cls := "java/util/ArrayList", name := "add", desc := "(Ljava/lang/Object;)Z" } : Jvm.MethodName) jdk_38_method_25_code (2 : Nat) (Option.some Jvm.ClassFile.FieldType.boolean)).before args0 about1 = true := code_word (m := ⟨13, 4⟩) (meth := k13m4) (c := k13c4) (by decide +kernel) rfl rfl rfl (by decide +kernel)
set_option maxRecDepth 65536 in
theorem w_c10 : (Jvm.Cond.code ({ cls := "java/util/ArrayList", name := "add", desc := "(Ljava/lang/Object;[Ljava/lang/Object;I)V" } : Jvm.MethodName) jdk_38_method_24_code (4 : Nat) (Option.none : Option Jvm.ClassFile.FieldType)).before args0 about1 = true := code_word (m := ⟨13, 3⟩) (meth := k13m3) (c := k13c3) (by decide +kernel) rfl rfl rfl (by decide +kernel)
set_option maxRecDepth 65536 in
theorem w_c11 : (Jvm.Cond.code ({ cls := "java/util/ArrayList", name := "grow", desc := "()[Ljava/lang/Object;" } : Jvm.MethodName) jdk_38_method_7_code (1 : Nat) (Option.some (Jvm.ClassFile.FieldType.array (Jvm.ClassFile.FieldType.object "java/lang/Object")))).before args0 about1 = true := code_word (m := ⟨13, 2⟩) (meth := k13m2) (c := k13c2) (by decide +kernel) rfl rfl rfl (by decide +kernel)
set_option maxRecDepth 65536 in
theorem w_c12 : (Jvm.Cond.code ({ cls := "java/util/ArrayList", name := "grow", desc := "(I)[Ljava/lang/Object;" } : Jvm.MethodName) jdk_38_method_6_code (4 : Nat) (Option.some (Jvm.ClassFile.FieldType.array (Jvm.ClassFile.FieldType.object "java/lang/Object")))).before args0 about1 = true := code_word (m := ⟨13, 1⟩) (meth := k13m1) (c := k13c1) (by decide +kernel) rfl rfl rfl (by decide +kernel)
set_option maxRecDepth 65536 in
theorem w_c13 : (Jvm.Cond.code ({ cls := "java/lang/Math", name := "max", desc := "(II)I" } : Jvm.MethodName) jdk_29_method_65_code (2 : Nat) (Option.some Jvm.ClassFile.FieldType.int)).before args0 about1 = true := code_word (m := ⟨14, 1⟩) (meth := k14m1) (c := k14c1) (by decide +kernel) rfl rfl rfl (by decide +kernel)
set_option maxRecDepth 65536 in
theorem w_c14 : (Jvm.Cond.code ({ cls := "com/example/dispatchwire/dispatchwire/ndr/NdrWriter", name := "nextReferentId", desc := "()I" } : Jvm.MethodName) prog_59_method_21_code (2 : Nat) (Option.some Jvm.ClassFile.FieldType.int)).before args0 about1 = true := code_word (m := ⟨2, 3⟩) (meth := k2m3) (c := k2c3) (by decide +kernel) rfl rfl rfl (by decide +kernel)
set_option maxRecDepth 65536 in
theorem w_c15 : (Jvm.Cond.code ({ cls := "com/example/dispatchwire/dispatchwire/ndr/NdrWriter", name := "position", desc := "()I" } : Jvm.MethodName) prog_59_method_4_code (1 : Nat) (Option.some Jvm.ClassFile.FieldType.int)).before args0 about1 = true := code_word (m := ⟨2, 2⟩) (meth := k2m2) (c := k2c2) (by decide +kernel) rfl rfl rfl (by decide +kernel)
set_option maxRecDepth 65536 in
theorem w_c16 : (Jvm.Cond.code ({ cls := "com/example/dispatchwire/dispatchwire/ndr/NdrWriter$ChunkedBuffer", name := "size", desc := "()I" } : Jvm.MethodName) prog_60_method_2_code (1 : Nat) (Option.some Jvm.ClassFile.FieldType.int)).before args0 about1 = true := code_word (m := ⟨3, 1⟩) (meth := k3m1) (c := k3c1) (by decide +kernel) rfl rfl rfl (by decide +kernel)
def codes1 : List Jvm.Cond := [Jvm.Cond.code x code maxLocals ret, Jvm.Cond.code ({ cls := "com/example/dispatchwire/dispatchwire/ndr/NdrWriter", name := "<init>", desc := "(I)V" } : Jvm.MethodName) prog_59_method_1_code (2 : Nat) (Option.none : Option Jvm.ClassFile.FieldType), Jvm.Cond.code ({ cls := "com/example/dispatchwire/dispatchwire/ndr/NdrWriter", name := "<init>", desc := "(IZ)V" } : Jvm.MethodName) prog_59_method_2_code (3 : Nat) (Option.none : Option Jvm.ClassFile.FieldType), Jvm.Cond.code ({ cls := "java/lang/Object", name := "<init>", desc := "()V" } : Jvm.MethodName) object_method_1_code (1 : Nat) (Option.none : Option Jvm.ClassFile.FieldType), Jvm.Cond.code ({ cls := "com/example/dispatchwire/dispatchwire/ndr/NdrWriter$ChunkedBuffer", name := "<init>", desc := "(I)V" } : Jvm.MethodName) prog_60_method_1_code (2 : Nat) (Option.none : Option Jvm.ClassFile.FieldType), Jvm.Cond.code ({ cls := "java/util/ArrayList", name := "<init>", desc := "()V" } : Jvm.MethodName) jdk_38_method_2_code (1 : Nat) (Option.none : Option Jvm.ClassFile.FieldType), Jvm.Cond.code ({ cls := "java/util/AbstractList", name := "<init>", desc := "()V" } : Jvm.MethodName) jdk_39_method_1_code (1 : Nat) (Option.none : Option Jvm.ClassFile.FieldType), Jvm.Cond.code ({ cls := "java/util/AbstractCollection", name := "<init>", desc := "()V" } : Jvm.MethodName) jdk_22_method_1_code (1 : Nat) (Option.none : Option Jvm.ClassFile.FieldType), Jvm.Cond.code ({ cls := "java/lang/Math", name := "min", desc := "(II)I" } : Jvm.MethodName) jdk_29_method_69_code (2 : Nat) (Option.some Jvm.ClassFile.FieldType.int), Jvm.Cond.code ({ cls := "java/util/ArrayList", name := "add", desc := "(Ljava/lang/Object;)Z" } : Jvm.MethodName) jdk_38_method_25_code (2 : Nat) (Option.some Jvm.ClassFile.FieldType.boolean), Jvm.Cond.code ({ cls := "java/util/ArrayList", name := "add", desc := "(Ljava/lang/Object;[Ljava/lang/Object;I)V" } : Jvm.MethodName) jdk_38_method_24_code (4 : Nat) (Option.none : Option Jvm.ClassFile.FieldType), Jvm.Cond.code ({ cls := "java/util/ArrayList", name := "grow", desc := "()[Ljava/lang/Object;" } : Jvm.MethodName) jdk_38_method_7_code (1 : Nat) (Option.some (Jvm.ClassFile.FieldType.array (Jvm.ClassFile.FieldType.object "java/lang/Object"))), Jvm.Cond.code ({ cls := "java/util/ArrayList", name := "grow", desc := "(I)[Ljava/lang/Object;" } : Jvm.MethodName) jdk_38_method_6_code (4 : Nat) (Option.some (Jvm.ClassFile.FieldType.array (Jvm.ClassFile.FieldType.object "java/lang/Object"))), Jvm.Cond.code ({ cls := "java/lang/Math", name := "max", desc := "(II)I" } : Jvm.MethodName) jdk_29_method_65_code (2 : Nat) (Option.some Jvm.ClassFile.FieldType.int), Jvm.Cond.code ({ cls := "com/example/dispatchwire/dispatchwire/ndr/NdrWriter", name := "nextReferentId", desc := "()I" } : Jvm.MethodName) prog_59_method_21_code (2 : Nat) (Option.some Jvm.ClassFile.FieldType.int), Jvm.Cond.code ({ cls := "com/example/dispatchwire/dispatchwire/ndr/NdrWriter", name := "position", desc := "()I" } : Jvm.MethodName) prog_59_method_4_code (1 : Nat) (Option.some Jvm.ClassFile.FieldType.int), Jvm.Cond.code ({ cls := "com/example/dispatchwire/dispatchwire/ndr/NdrWriter$ChunkedBuffer", name := "size", desc := "()I" } : Jvm.MethodName) prog_60_method_2_code (1 : Nat) (Option.some Jvm.ClassFile.FieldType.int)]
set_option maxRecDepth 65536 in
theorem codes_eq : words1.filter isCode = codes1 := rfl
theorem w_codes : ∀ c ∈ words1.filter isCode, c.before args0 about1 = true := by
  rw [codes_eq]
  intro c hc
  simp only [codes1, List.mem_cons, List.not_mem_nil, or_false] at hc
  rcases hc with rfl | rfl | rfl | rfl | rfl | rfl | rfl | rfl | rfl | rfl | rfl | rfl | rfl | rfl | rfl | rfl | rfl
  · exact w_c0
  · exact w_c1
  · exact w_c2
  · exact w_c3
  · exact w_c4
  · exact w_c5
  · exact w_c6
  · exact w_c7
  · exact w_c8
  · exact w_c9
  · exact w_c10
  · exact w_c11
  · exact w_c12
  · exact w_c13
  · exact w_c14
  · exact w_c15
  · exact w_c16
set_option maxRecDepth 65536 in
theorem w_t1 : (words1.take 24).all (fun c => isCode c || c.before args0 about1) = true := by decide +kernel
set_option maxRecDepth 65536 in
theorem w_t2 : ((words1.drop 24).take 24).all (fun c => isCode c || c.before args0 about1) = true := by decide +kernel
set_option maxRecDepth 65536 in
theorem w_t3 : (((words1.drop 24).drop 24).take 24).all (fun c => isCode c || c.before args0 about1) = true := by decide +kernel
set_option maxRecDepth 65536 in
theorem w_t4 : ((((words1.drop 24).drop 24).drop 24).take 24).all (fun c => isCode c || c.before args0 about1) = true := by decide +kernel
set_option maxRecDepth 65536 in
theorem w_t5 : (((((words1.drop 24).drop 24).drop 24).drop 24).take 24).all (fun c => isCode c || c.before args0 about1) = true := by decide +kernel
set_option maxRecDepth 65536 in
theorem w_t6 : (((((words1.drop 24).drop 24).drop 24).drop 24).drop 24).all (fun c => isCode c || c.before args0 about1) = true := by decide +kernel
theorem w_tables : (allAtoms (Jvm.Cond.code x code maxLocals ret :: tables_1)).before args0 about1 = true := by
  rw [allAtoms_all]
  show words1.all (fun c => c.before args0 about1) = true
  refine all_split ?_ w_codes
  rw [← List.take_append_drop 24 words1, List.all_append, w_t1, ← List.take_append_drop 24 (words1.drop 24), List.all_append, w_t2, ← List.take_append_drop 24 ((words1.drop 24).drop 24), List.all_append, w_t3, ← List.take_append_drop 24 (((words1.drop 24).drop 24).drop 24), List.all_append, w_t4, ← List.take_append_drop 24 ((((words1.drop 24).drop 24).drop 24).drop 24), List.all_append, w_t5, w_t6]
  rfl
set_option maxRecDepth 65536 in
theorem w_rest : rest_1_c.before args0 about1 = true := by decide +kernel
set_option maxRecDepth 65536 in
theorem w_case : (Jvm.Cond.and given_1 narrow_1).before args0 about1 = true := by decide +kernel
theorem w_applies : (headSpec (Jvm.Cond.code x code maxLocals ret :: tables_1) room_1).applies x e0.platform about1 = true :=
  (Spec.applies_iff w_frames).mpr ⟨w_running, w_runnable, w_alone, w_named, w_hears, w_ripe, w_room, w_tables⟩
theorem atStart : AtStart classFile x code maxLocals ret World_1 tables_1 room_1 Calls_1 rest_1 Pre_1 launch0 p0 e0 about1 theMethod args0 below0 :=
  ⟨lists_1, trivial, launch0.admits_env _ _ _, launch0.least_env, fairChoices_fair.cas, fairChoices_fair.clock, w_frames, w_args, w_heap, w_applies, trivial, w_rest, w_case⟩
end start1
theorem witness_1 : WitnessClaimed_1 := ⟨start1.p0, start1.e0, start1.about1, start1.theMethod, start1.args0, start1.below0, start1.atStart⟩
end Jvm.Pilot.@@N@@
