import JvmDerived
import JvmDerived.Pilot.@@N@@Statement
import JvmDerived.Pilot.@@N@@Code
set_option linter.unusedVariables false
set_option linter.unusedSimpArgs false
namespace Jvm.Pilot.@@N@@
open Jvm Jvm.ClassFile Sem Op Lib Jvm.Free Jvm.Stand Jvm.LawKit Jvm.RoadKit Bundle Jvm.Pilot.@@N@@.Jvm.D
section Own
variable {p : Program} {l : Launch} {e : Env} {R : Room} {s : State} {m : MethodId} {args : Array Value} {below : List Frame} {meth : Method} {c : Code} {T T' : State} {locs : List Loc} {cells slots C S : Nat} {Qv : Option Value → Heap → List Loc → Prop} {Z : State} {a0 : Array Value} {h : Heap}
/-- from here, with this frame on top, the method returns, Qv holds of what it returns, of the heap and of what was written, within C cells and S slots -/
def own_Ends (p : Program) (e : Env) (below : List Frame) (s : State) (C S : Nat) (Qv : Option Value → Heap → List Loc → Prop) (T : State) (g : JFrame) : Prop :=
  ∃ (s₂ : State) (o : Outcome), Steps p.tables e below (T.setTop g) s₂ ∧ s₂.status = .running ∧ Ended s₂ below o ∧ ∃ v L, o = .returned v ∧ Qv v s₂.heap L ∧ FrameEnd s o s₂ L C S
theorem own_go {g : JFrame} (g' : JFrame) (st : ∀ t, Steps p.tables e below (T'.setTop g') t → Steps p.tables e below (T.setTop g) t) (k : own_Ends p e below s C S Qv T' g') : own_Ends p e below s C S Qv T g := by
  obtain ⟨s₂, o, h1, h⟩ := k
  exact ⟨s₂, o, st _ h1, h⟩
theorem own_ret (X : Stand p l e R s m args below meth c T locs cells slots) (hlk : meth.locks = false) {g : JFrame} {v : Option Value} (hv : meth.sig.returnType = none → v = none)
    (st : ∀ fs, (∀ (f : JFrame) (acts : List Action), f.method = m → f.locked = none → f.entered = [] → (doReturn e (T.setTop f) acts v).1 = T.setFrames fs) → Steps p.tables e below (T.setTop g) (T.setFrames fs))
    (hC : cells ≤ C) (hS : slots ≤ S) (hQ : Qv v T.heap locs) : own_Ends p e below s C S Qv T g := by
  obtain ⟨fs, hr, hrun, hended, hW, hsame⟩ := X.leave (v := v) hv hlk
  exact ⟨_, _, st fs hr, hrun, hended, v, locs, rfl, hQ, ⟨_, rfl⟩, hW, hsame.mono hC hS⟩
theorem own_retI (X : Stand p l e R s m args below meth c T locs cells slots) (hx : p.tables.exec = Jvm.exec) (hlk : meth.locks = false) {pc : Nat} {Ls : Array Slot} {z : Int32} {rest : List Value} {t : FieldType} (hret : meth.sig.returnType = some t)
    (ht : t = .int ∨ t = .boolean ∨ t = .byte ∨ t = .char ∨ t = .short) (hn : narrow t (.int z) = .int z) (hd : decode c.code pc = .ok (.ireturn, 1)) (hC : cells ≤ C) (hS : slots ≤ S) (hQ : Qv (some (.int z)) T.heap locs) : own_Ends p e below s C S Qv T (mkF m pc Ls (.int z :: rest)) :=
  own_ret X hlk (fun h => by rw [hret] at h; cases h) (fun fs hr => retOut X hx hret hn (Or.inl ⟨rfl, ht, _, rfl⟩) hd hr) hC hS hQ
theorem own_retN (X : Stand p l e R s m args below meth c T locs cells slots) (hx : p.tables.exec = Jvm.exec) (hlk : meth.locks = false) {pc : Nat} {Ls : Array Slot} {z : Int32} {rest : List Value} {t : FieldType} (hret : meth.sig.returnType = some t)
    (ht : t = .boolean ∨ t = .byte ∨ t = .char ∨ t = .short) (hd : decode c.code pc = .ok (.ireturn, 1)) (hC : cells ≤ C) (hS : slots ≤ S) (hQ : Qv (some (.int (nar t z))) T.heap locs) : own_Ends p e below s C S Qv T (mkF m pc Ls (.int z :: rest)) :=
  own_ret X hlk (fun h => by rw [hret] at h; cases h) (fun fs hr => retN X hx hret ht hd hr) hC hS hQ
theorem own_retL (X : Stand p l e R s m args below meth c T locs cells slots) (hx : p.tables.exec = Jvm.exec) (hlk : meth.locks = false) {pc : Nat} {Ls : Array Slot} {z : Int64} {rest : List Value} (hret : meth.sig.returnType = some .long)
    (hd : decode c.code pc = .ok (.lreturn, 1)) (hC : cells ≤ C) (hS : slots ≤ S) (hQ : Qv (some (.long z)) T.heap locs) : own_Ends p e below s C S Qv T (mkF m pc Ls (.long z :: rest)) :=
  own_ret X hlk (fun h => by rw [hret] at h; cases h) (fun fs hr => retOut X hx hret rfl (Or.inr (Or.inl ⟨rfl, rfl, _, rfl⟩)) hd hr) hC hS hQ
theorem own_retA (X : Stand p l e R s m args below meth c T locs cells slots) (hx : p.tables.exec = Jvm.exec) (hlk : meth.locks = false) {pc : Nat} {Ls : Array Slot} {z : Addr} {rest : List Value} {t : FieldType} (hret : meth.sig.returnType = some t) (ht : t.isReference = true) (hn : narrow t (.ref z) = .ref z)
    (hd : decode c.code pc = .ok (.areturn, 1)) (hC : cells ≤ C) (hS : slots ≤ S) (hQ : Qv (some (.ref z)) T.heap locs) : own_Ends p e below s C S Qv T (mkF m pc Ls (.ref z :: rest)) :=
  own_ret X hlk (fun h => by rw [hret] at h; cases h) (fun fs hr => retOut X hx hret hn (Or.inr (Or.inr (Or.inr (Or.inr ⟨rfl, ht, rfl⟩)))) hd hr) hC hS hQ
theorem own_ret0 (X : Stand p l e R s m args below meth c T locs cells slots) (hx : p.tables.exec = Jvm.exec) (hlk : meth.locks = false) {pc : Nat} {Ls : Array Slot} (hret : meth.sig.returnType = none)
    (hd : decode c.code pc = .ok (.return_, 1)) (hC : cells ≤ C) (hS : slots ≤ S) (hQ : Qv none T.heap locs) : own_Ends p e below s C S Qv T (mkF m pc Ls []) :=
  own_ret X hlk (fun _ => rfl) (fun fs hr => X.returnOut hx hret hd hr) hC hS hQ
/-- a contract out of its body's walk -/
theorem own_met {y : MethodName} {bytes : ByteArray} {maxL : Nat} {ret : Option FieldType} {ws : List Jvm.Cond} {rm : Room} {as' : Array Value} {h0 : Heap} (hp : plainFor y = true)
    (body : ∀ (p : Program) (e : Env) (s : State) (m : MethodId) (below : List Frame) (meth : Method) (c : Code) (T : State), p.tables.exec = Jvm.exec → c.code = bytes → c.maxLocals = maxL → s.vm.findClass y.cls = some m.cls → meth.sig.returnType = ret → meth.locks = false → meth.name = y.name → Z.Warmed39 s.vm → Stand p l e rm s m as' below meth c T [] 0 0 → T.heap = h0 → own_Ends p e below s rm.cells rm.slots Qv T (entryFrame m as' maxL)) :
    MetFree l y (head1 (Jvm.Cond.code y bytes maxL ret :: ws) rm) (fun a U => a = as' ∧ Z.Warmed39 U.vm ∧ U.heap = h0) (fun _ _ _ _ _ => True) (fun _ U o U' => ∃ v L, o = .returned v ∧ Qv v U'.heap L ∧ FrameEnd U o U' L rm.cells rm.slots) := by
  refine MetFree.of_bodySF hp hisR ?_
  intro p e s m args below meth c s₁ Bd hml0 hP hK
  obtain ⟨rfl, hZ, hh⟩ := hP
  exact body p e s m below meth c s₁ Bd.exec Bd.bytes hml0 (findClass_of_methodNamed Bd.named) Bd.returns Bd.notSynchronized ((name_of_methodNamed Bd.named Bd.method).1) hZ (Stand.of_body Bd) (by rw [← hh, Bd.state]; rfl)
/-- what a callee's contract says (as' its arguments, h the heap where it is called) -/
abbrev own_Met (l : Launch) (Z : State) (y : MethodName) (bytes : ByteArray) (maxL : Nat) (ret : Option FieldType) (rm : Room) (as' : Array Value) (h : Heap) (Q : Option Value → Heap → List Loc → Prop) : Prop :=
  MetFree l y (head1 [Jvm.Cond.code y bytes maxL ret] rm) (fun a U => a = as' ∧ Z.Warmed39 U.vm ∧ U.heap = h) (fun _ _ _ _ _ => True) (fun _ U o U' => ∃ v L, o = .returned v ∧ Q v U'.heap L ∧ FrameEnd U o U' L rm.cells rm.slots)
theorem own_callS (X : Stand p l e R s m args below meth c T locs cells slots) (hx : p.tables.exec = Jvm.exec) (hZ : Z.Warmed39 s.vm) {own : String} {index : Nat} {y : MethodName} {bytes : ByteArray} {maxL : Nat} {ret : Option FieldType} {rm : Room} {as' : Array Value} {Q : Option Value → Heap → List Loc → Prop}
    (hown : s.vm.findClass own = some m.cls) (w1 : (Jvm.Cond.methodLink own index y).before a0 Z = true) (w2 : (Jvm.Cond.static y).before a0 Z = true) (w3 : (Jvm.Cond.initialized y.cls).before a0 Z = true) (w4 : (Jvm.Cond.code y bytes maxL ret).before a0 Z = true)
    (hy : y.cls ≠ "java/lang/invoke/MethodHandle" ∧ y.cls ≠ "java/lang/invoke/VarHandle") (eT : T.heap = h) (hM : own_Met l Z y bytes maxL ret rm as' h Q)
    (W : Nat) (hf : rm.frames + 1 ≤ R.frames) (hl : W + (maxL + 11) + rm.locals ≤ R.locals) (hC : cells + rm.cells ≤ R.cells) (hS : slots + rm.slots ≤ R.slots)
    {g : JFrame} (hg : g.method = m) (hsize : g.locals.size = c.maxLocals) (argsL rest : List Value) (hlen : ∀ sig, parseMethodDescriptor y.desc = some sig → argsL.length = sig.parameters.length)
    (hstack : g.stack = argsL.reverse ++ rest) (has : argsL.toArray = as') (hW : 2 * g.monitorRoom + (rest.map fun v => v.category).sum ≤ W) (hd : decode c.code g.pc = .ok (.invokestatic index, 3))
    (k : ∀ v T' h' L, Stand p l e R s m args below meth c T' (locs ++ L) (cells + rm.cells) (slots + rm.slots) → T'.heap = h' → Q v h' L → own_Ends p e below s C S Qv T' { g with pc := g.pc + 3, stack := v.toList ++ rest }) : own_Ends p e below s C S Qv T g := by
  obtain ⟨v, _, ⟨T', L', k', n'⟩, -, X', ⟨Lc, hQ, l1, y1, z1⟩, st⟩ := Jvm.LawKit.callS X hx (y := y) hown (mvT hZ w1) (mvT hZ w2) (mvT hZ w3) (mvT hZ w4) hy (backOf (W := W) hM hZ w4 w3 hf hl) (g := g) hg hsize (argsL := argsL) (rest := rest) hlen hstack hW hd (fun _ _ => ⟨has, eT, hC, hS⟩)
  dsimp only [Pt.U, Pt.locs, Pt.cells, Pt.slots] at X' l1 y1 z1 st hQ
  subst l1 y1 z1
  exact own_go _ st (k v T' _ Lc X' rfl hQ)
theorem own_callI (X : Stand p l e R s m args below meth c T locs cells slots) (hx : p.tables.exec = Jvm.exec) (hZ : Z.Warmed39 s.vm) {own : String} {index : Nat} {y : MethodName} {bytes : ByteArray} {maxL : Nat} {rm : Room} {as' : Array Value} {Q : Option Value → Heap → List Loc → Prop}
    (hown : s.vm.findClass own = some m.cls) (hy1 : y.name = "<init>") (w1 : (Jvm.Cond.methodLink own index y).before a0 Z = true) (w2 : (Jvm.Cond.instanceMethod y).before a0 Z = true) (w3 : (Jvm.Cond.initialized y.cls).before a0 Z = true) (w4 : (Jvm.Cond.code y bytes maxL none).before a0 Z = true)
    (hy : y.cls ≠ "java/lang/invoke/MethodHandle" ∧ y.cls ≠ "java/lang/invoke/VarHandle") (eT : T.heap = h) (hM : own_Met l Z y bytes maxL none rm as' h Q)
    (W : Nat) (hf : rm.frames + 1 ≤ R.frames) (hl : W + (maxL + 11) + rm.locals ≤ R.locals) (hC : cells + rm.cells ≤ R.cells) (hS : slots + rm.slots ≤ R.slots)
    {g : JFrame} (hg : g.method = m) (hsize : g.locals.size = c.maxLocals) (a : Addr) (argsL rest : List Value) (hlen : ∀ sig, parseMethodDescriptor y.desc = some sig → argsL.length = sig.parameters.length)
    (hstack : g.stack = argsL.reverse ++ .ref a :: rest) (has : (Value.ref a :: argsL).toArray = as') (hW : 2 * g.monitorRoom + (rest.map fun v => v.category).sum ≤ W) (hd : decode c.code g.pc = .ok (.invokespecial index, 3))
    (k : ∀ v T' h' L, Stand p l e R s m args below meth c T' (locs ++ L) (cells + rm.cells) (slots + rm.slots) → T'.heap = h' → Q v h' L → own_Ends p e below s C S Qv T' { g with pc := g.pc + 3, stack := v.toList ++ rest }) : own_Ends p e below s C S Qv T g := by
  obtain ⟨v, _, ⟨T', L', k', n'⟩, -, X', ⟨Lc, hQ, l1, y1, z1⟩, st⟩ := Jvm.LawKit.callI X hx (y := y) hown hy1 (mvT hZ w1) (mvT hZ w2) (mvT hZ w4) hy (backOf (W := W) hM hZ w4 w3 hf hl) (g := g) hg hsize (a := a) (argsL := argsL) (rest := rest) hlen hstack hW hd (fun _ _ => ⟨has, eT, hC, hS⟩)
  dsimp only [Pt.U, Pt.locs, Pt.cells, Pt.slots] at X' l1 y1 z1 st hQ
  subst l1 y1 z1
  exact own_go _ st (k v T' _ Lc X' rfl hQ)
theorem own_callV (X : Stand p l e R s m args below meth c T locs cells slots) (hx : p.tables.exec = Jvm.exec) (hZ : Z.Warmed39 s.vm) {own C0 : String} {index : Nat} {y : MethodName} {bytes : ByteArray} {maxL : Nat} {ret : Option FieldType} {rm : Room} {as' : Array Value} {Q : Option Value → Heap → List Loc → Prop}
    (hown : s.vm.findClass own = some m.cls) (w1 : (Jvm.Cond.methodLink own index y).before a0 Z = true) (w5 : (Jvm.Cond.declares y).before a0 Z = true) (w6 : (Jvm.Cond.selects C0 y y).before a0 Z = true) (w2 : (Jvm.Cond.instanceMethod y).before a0 Z = true) (w3 : (Jvm.Cond.initialized y.cls).before a0 Z = true) (w4 : (Jvm.Cond.code y bytes maxL ret).before a0 Z = true)
    (hy : y.cls ≠ "java/lang/invoke/MethodHandle" ∧ y.cls ≠ "java/lang/invoke/VarHandle") (eT : T.heap = h) (a : Addr) (E : Exa Z h a C0) (hM : own_Met l Z y bytes maxL ret rm as' h Q)
    (W : Nat) (hf : rm.frames + 1 ≤ R.frames) (hl : W + (maxL + 11) + rm.locals ≤ R.locals) (hC : cells + rm.cells ≤ R.cells) (hS : slots + rm.slots ≤ R.slots)
    {g : JFrame} (hg : g.method = m) (hsize : g.locals.size = c.maxLocals) (argsL rest : List Value) (hlen : ∀ sig, parseMethodDescriptor y.desc = some sig → argsL.length = sig.parameters.length)
    (hstack : g.stack = argsL.reverse ++ .ref a :: rest) (has : (Value.ref a :: argsL).toArray = as') (hW : 2 * g.monitorRoom + (rest.map fun v => v.category).sum ≤ W) (hd : decode c.code g.pc = .ok (.invokevirtual index, 3))
    (k : ∀ v T' h' L, Stand p l e R s m args below meth c T' (locs ++ L) (cells + rm.cells) (slots + rm.slots) → T'.heap = h' → Q v h' L → own_Ends p e below s C S Qv T' { g with pc := g.pc + 3, stack := v.toList ++ rest }) : own_Ends p e below s C S Qv T g := by
  obtain ⟨cq, kq, q1, q2, q3⟩ := isOf hZ eT E
  obtain ⟨v, _, ⟨T', L', k', n'⟩, -, X', ⟨Lc, hQ, l1, y1, z1⟩, st⟩ := X.virtualBack hx (y := y) (z := y) hown (mvT hZ w1) (mvT hZ w5) (notFace_of_selects (args := #[]) (mvT hZ w6)) (mvT hZ w6) (mvT hZ w2) hy (backOf (W := W) hM hZ w4 w3 hf hl) q1 q3 (g := g) hg hsize (Steps.refl _) (argsL := argsL) (rest := rest) hlen hstack hW hd (fun _ _ => ⟨has, eT, hC, hS⟩)
  dsimp only [Pt.U, Pt.locs, Pt.cells, Pt.slots] at X' l1 y1 z1 st hQ
  subst l1 y1 z1
  exact own_go _ (fun t q => st.trans q) (k v T' _ Lc X' rfl hQ)
theorem own_callP (X : Stand p l e R s m args below meth c T locs cells slots) (hx : p.tables.exec = Jvm.exec) (hZ : Z.Warmed39 s.vm) {own C0 : String} {index kk : Nat} {y : MethodName} {bytes : ByteArray} {maxL : Nat} {ret : Option FieldType} {rm : Room} {as' : Array Value} {Q : Option Value → Heap → List Loc → Prop}
    (hown : s.vm.findClass own = some m.cls) (w1 : (Jvm.Cond.methodLink own index y).before a0 Z = true) (w2 : (Jvm.Cond.instanceMethod y).before a0 Z = true) (wi : (Jvm.Cond.instantiable y.cls kk).before a0 Z = true) (w5 : (Jvm.Cond.privateMethod y).before a0 Z = true) (w3 : (Jvm.Cond.initialized y.cls).before a0 Z = true) (w4 : (Jvm.Cond.code y bytes maxL ret).before a0 Z = true)
    (hy : y.cls ≠ "java/lang/invoke/MethodHandle" ∧ y.cls ≠ "java/lang/invoke/VarHandle") (eT : T.heap = h) (a : Addr) (E : Exa Z h a C0) (hM : own_Met l Z y bytes maxL ret rm as' h Q)
    (W : Nat) (hf : rm.frames + 1 ≤ R.frames) (hl : W + (maxL + 11) + rm.locals ≤ R.locals) (hC : cells + rm.cells ≤ R.cells) (hS : slots + rm.slots ≤ R.slots)
    {g : JFrame} (hg : g.method = m) (hsize : g.locals.size = c.maxLocals) (argsL rest : List Value) (hlen : ∀ sig, parseMethodDescriptor y.desc = some sig → argsL.length = sig.parameters.length)
    (hstack : g.stack = argsL.reverse ++ .ref a :: rest) (has : (Value.ref a :: argsL).toArray = as') (hW : 2 * g.monitorRoom + (rest.map fun v => v.category).sum ≤ W) (hd : decode c.code g.pc = .ok (.invokevirtual index, 3))
    (k : ∀ v T' h' L, Stand p l e R s m args below meth c T' (locs ++ L) (cells + rm.cells) (slots + rm.slots) → T'.heap = h' → Q v h' L → own_Ends p e below s C S Qv T' { g with pc := g.pc + 3, stack := v.toList ++ rest }) : own_Ends p e below s C S Qv T g := by
  obtain ⟨cq, q1, q2⟩ := E.cell
  have hp := Cond.privateMethod_at (mvP hZ w5 (args := #[]))
  obtain ⟨c2, k2, i1, i2, i3, i4, -⟩ := Cond.instantiable_spec (mvT (args := args) hZ wi)
  have hni : k2.isInterface = false := (Bool.or_eq_false_iff.mp i4).1
  have w6 := selects_self_of_private i1 i2 hni hp (mvT (args := args) hZ w2) hy
  obtain ⟨v, _, ⟨T', L', k', n'⟩, -, X', ⟨Lc, hQ, l1, y1, z1⟩, st⟩ := X.privateBack hx (y := y) hown (mvT hZ w1) (mvT hZ w2) w6 hp (mvT hZ w4) hy (backOf (W := W) hM hZ w4 w3 hf hl) (g := g) hg hsize (Steps.refl _) (a := a) (by rw [eT]; exact q1) q2 (argsL := argsL) (rest := rest) hlen hstack hW hd (fun _ _ => ⟨has, eT, hC, hS⟩)
  dsimp only [Pt.U, Pt.locs, Pt.cells, Pt.slots] at X' l1 y1 z1 st hQ
  subst l1 y1 z1
  exact own_go _ (fun t q => st.trans q) (k v T' _ Lc X' rfl hQ)
abbrev own_rel (cd : ClassFile.Cond) (a b : Int) : Prop := match cd with | .eq => a = b | .ne => ¬ a = b | .lt => a < b | .ge => b ≤ a | .gt => b < a | .le => a ≤ b
theorem own_icT {cd : ClassFile.Cond} {x y : Int32} (h : own_rel cd x.toInt y.toInt) : if_icmp.holds cd x y = true := by
  cases cd <;> simp [own_rel] at h <;> simp [if_icmp.holds, Int32.lt_iff_toInt_lt, Int32.le_iff_toInt_le, ← Int32.toInt_inj, h]
theorem own_icF {cd : ClassFile.Cond} {x y : Int32} (h : ¬ own_rel cd x.toInt y.toInt) : if_icmp.holds cd x y = false := by
  cases cd <;> simp [own_rel] at h <;> simp [if_icmp.holds, Int32.lt_iff_toInt_lt, Int32.le_iff_toInt_le, ← Int32.toInt_inj, h]
theorem own_zT {cd : ClassFile.Cond} {x : Int32} (h : own_rel cd x.toInt 0) : ifCond.holds cd x = true := (if0 cd x).trans (own_icT h)
theorem own_zF {cd : ClassFile.Cond} {x : Int32} (h : ¬ own_rel cd x.toInt 0) : ifCond.holds cd x = false := (if0 cd x).trans (own_icF h)
theorem own_cmp (cd : ClassFile.Cond) (x y : Int64) : own_rel cd (lcmpW x y).toInt 0 ↔ own_rel cd x.toInt y.toInt := by
  have h := c_lcmp x y
  cases cd <;> simp only [own_rel] <;> omega
theorem own_lcT {cd : ClassFile.Cond} {x y : Int64} (h : own_rel cd x.toInt y.toInt) : ifCond.holds cd (lcmpW x y) = true := own_zT ((own_cmp cd x y).mpr h)
theorem own_lcF {cd : ClassFile.Cond} {x y : Int64} (h : ¬ own_rel cd x.toInt y.toInt) : ifCond.holds cd (lcmpW x y) = false := own_zF (fun q => h ((own_cmp cd x y).mp q))
theorem own_xorm1 (x : Int64) : (x ^^^ (-1 : Int64)).toInt = -x.toInt - 1 := by
  have h : x ^^^ (-1 : Int64) = ~~~x := by
    apply Int64.toBitVec_inj.mp
    show x.toBitVec ^^^ BitVec.ofInt 64 (-1) = ~~~x.toBitVec
    have : BitVec.ofInt 64 (-1) = BitVec.allOnes 64 := by decide
    rw [this, BitVec.xor_allOnes]
  rw [h, Int64.toInt_not]
  have := rng64 x
  have e : (-x.toInt - 1).bmod (2 ^ 64) = -x.toInt - 1 := by
    rw [Int.bmod_eq_of_le] <;> omega
  first | exact e | omega
theorem own_nz32 {y : Int32} (h : ¬ y.toInt = 0) : y ≠ 0 := fun q => h (by rw [q]; rfl)
theorem own_nz64 {y : Int64} (h : ¬ y.toInt = 0) : y ≠ 0 := fun q => h (by rw [q]; rfl)
theorem own_lremV (x y : Int64) : 0 ≤ x.toInt → 0 < y.toInt → 0 ≤ (x - (x / y) * y).toInt ∧ (x - (x / y) * y).toInt < y.toInt ∧ (x - (x / y) * y).toInt ≤ x.toInt := by
  intro h0 h1
  rw [(c_lrem x y y.toInt rfl).1 h0]
  refine ⟨Int.emod_nonneg _ (by omega), Int.emod_lt_of_pos _ h1, ?_⟩
  have := Int.emod_add_mul_ediv x.toInt y.toInt
  have h2 : 0 ≤ x.toInt / y.toInt := Int.ediv_nonneg h0 (by omega)
  have h3 : 0 ≤ y.toInt * (x.toInt / y.toInt) := Int.mul_nonneg (by omega) h2
  omega
theorem own_iremV (x y : Int32) : 0 ≤ x.toInt → 0 < y.toInt → 0 ≤ (x % y).toInt ∧ (x % y).toInt < y.toInt ∧ (x % y).toInt ≤ x.toInt := fun h0 h1 =>
  have h := (c_iremV x y).1 h0 h1
  ⟨h.1, h.2.1, h.2.2.1⟩
end Own
theorem dR_0 : decode jdk_30_method_1_code 0 = .ok (.aload_n 0, 1) := by decide +kernel
theorem dR_1 : decode jdk_30_method_1_code 1 = .ok (.invokespecial 1, 3) := by decide +kernel
theorem dR_4 : decode jdk_30_method_1_code 4 = .ok (.return_, 1) := by decide +kernel
theorem pfR : plainFor (⟨"java/lang/Record", "<init>", "()V"⟩ : MethodName) = true := by decide +kernel
theorem efR (m : MethodId) (a : Addr) : entryFrame m #[(.ref a)] 1 = (mkF m 0 #[.val (.ref a)] []) := by first | rfl | (simp [entryFrame, mkF, argsToLocals, Value.category, maxLocals]; done)
def QR (Z : State) (a : Addr) (h0 : Heap) (n0 : Nat) (v : Option Value) (h : Heap) (L : List Loc) : Prop := v = none ∧ Fr n0 L ∧ h = h0
set_option maxRecDepth 65536 in
set_option maxHeartbeats 40000000 in
theorem rmR (l : Launch) (Z : State) (a0 : Array Value) (hw : ∀ d ∈ tables_1, d.before a0 Z = true) (ws : List Jvm.Cond) (a : Addr) (h0 : Heap) (n0 : Nat) (Z0 : n0 ≤ h0.size) :
    MetFree l (⟨"java/lang/Record", "<init>", "()V"⟩ : MethodName) (head1 (Jvm.Cond.code (⟨"java/lang/Record", "<init>", "()V"⟩ : MethodName) jdk_30_method_1_code 1 none :: ws) ({ frames := 1, cells := 0, slots := 0, locals := 12 } : Room)) (fun aa U => aa = #[(.ref a)] ∧ Z.Warmed39 U.vm ∧ U.heap = h0) (fun _ _ _ _ _ => True) (fun _ U o U' => ∃ v L, o = .returned v ∧ QR Z a h0 n0 v U'.heap L ∧ FrameEnd U o U' L ({ frames := 1, cells := 0, slots := 0, locals := 12 } : Room).cells ({ frames := 1, cells := 0, slots := 0, locals := 12 } : Room).slots) := by
  refine own_met pfR ?_
  intro p e s m below meth c T0 hx hby hml hown hret hlk hnm hZ X0 e0
  have N0 := Fr.nil n0
  rw [efR]
  refine own_go (mkF m 1 #[.val (.ref a)] [(.ref a)]) (fun t k => XS.aloadN X0.here hx rfl (hb hby dR_0) rfl rfl k) ?_
  obtain ⟨T1, X1, e1, st1⟩ := initO X0 hx hZ hown (hw _ (List.mem_of_getElem? (i := 12) rfl)) (hw _ (List.mem_of_getElem? (i := 13) rfl)) (hw _ (List.mem_of_getElem? (i := 14) rfl)) e0 (g := (mkF m 1 #[.val (.ref a)] [(.ref a)])) rfl (by rw [hml]; rfl) rfl (hb hby dR_1) (by decide) (W := 0) (by show 2 * 0 + _ ≤ _; exact Nat.le_of_eq rfl) (by decide)
  refine own_go (T' := T1) (mkF m 4 #[.val (.ref a)] []) st1 ?_
  refine own_ret0 X1 hx hlk hret (hb hby dR_4) (by decide) (by decide) ?_
  rw [e1]
  exact ⟨rfl, N0, rfl⟩
theorem d1_0 : decode prog_8_method_1_code 0 = .ok (.aload_n 0, 1) := by decide +kernel
theorem d1_1 : decode prog_8_method_1_code 1 = .ok (.invokespecial 1, 3) := by decide +kernel
theorem d1_4 : decode prog_8_method_1_code 4 = .ok (.iload_n 1, 1) := by decide +kernel
theorem d1_5 : decode prog_8_method_1_code 5 = .ok (.ifCond .lt 9, 3) := by decide +kernel
theorem d1_8 : decode prog_8_method_1_code 8 = .ok (.iload_n 1, 1) := by decide +kernel
theorem d1_9 : decode prog_8_method_1_code 9 = .ok (.bipush 28, 2) := by decide +kernel
theorem d1_11 : decode prog_8_method_1_code 11 = .ok (.if_icmp .le 17, 3) := by decide +kernel
theorem d1_28 : decode prog_8_method_1_code 28 = .ok (.iload_n 2, 1) := by decide +kernel
theorem d1_29 : decode prog_8_method_1_code 29 = .ok (.ifCond .eq 24, 3) := by decide +kernel
theorem d1_32 : decode prog_8_method_1_code 32 = .ok (.iload_n 2, 1) := by decide +kernel
theorem d1_33 : decode prog_8_method_1_code 33 = .ok (.sipush 128, 3) := by decide +kernel
theorem d1_36 : decode prog_8_method_1_code 36 = .ok (.if_icmp .eq 17, 3) := by decide +kernel
theorem d1_53 : decode prog_8_method_1_code 53 = .ok (.aload_n 0, 1) := by decide +kernel
theorem d1_54 : decode prog_8_method_1_code 54 = .ok (.iload_n 1, 1) := by decide +kernel
theorem d1_55 : decode prog_8_method_1_code 55 = .ok (.putfield 19, 3) := by decide +kernel
theorem d1_58 : decode prog_8_method_1_code 58 = .ok (.aload_n 0, 1) := by decide +kernel
theorem d1_59 : decode prog_8_method_1_code 59 = .ok (.iload_n 2, 1) := by decide +kernel
theorem d1_60 : decode prog_8_method_1_code 60 = .ok (.putfield 23, 3) := by decide +kernel
theorem d1_63 : decode prog_8_method_1_code 63 = .ok (.aload_n 0, 1) := by decide +kernel
theorem d1_64 : decode prog_8_method_1_code 64 = .ok (.iload_n 3, 1) := by decide +kernel
theorem d1_65 : decode prog_8_method_1_code 65 = .ok (.putfield 26, 3) := by decide +kernel
theorem d1_68 : decode prog_8_method_1_code 68 = .ok (.aload_n 0, 1) := by decide +kernel
theorem d1_69 : decode prog_8_method_1_code 69 = .ok (.lload 4, 2) := by decide +kernel
theorem d1_71 : decode prog_8_method_1_code 71 = .ok (.putfield 29, 3) := by decide +kernel
theorem d1_74 : decode prog_8_method_1_code 74 = .ok (.return_, 1) := by decide +kernel
theorem pd1_0 : parseMethodDescriptor "()V" = some ⟨[], none⟩ := by decide +kernel
theorem pf1 : plainFor (⟨"com/example/dispatchwire/dispatchwire/automation/Decimal", "<init>", "(IIIJ)V"⟩ : MethodName) = true := by decide +kernel
theorem ef1 (m : MethodId) (a : Addr) (q1 : Int32) (q2 : Int32) (q3 : Int32) (q4 : Int64) : entryFrame m #[(.ref a), (.int q1), (.int q2), (.int q3), (.long q4)] 6 = (mkF m 0 #[.val (.ref a), .val (.int q1), .val (.int q2), .val (.int q3), .val (.long q4), .second] []) := by first | rfl | (simp [entryFrame, mkF, argsToLocals, Value.category, maxLocals]; done)
def Q1 (Z : State) (a : Addr) (q1 : Int32) (q2 : Int32) (q3 : Int32) (q4 : Int64) (h0 : Heap) (n0 : Nat) (v : Option Value) (h : Heap) (L : List Loc) : Prop := v = none ∧ Fr n0 L ∧ Keep h0 h [a] ∧ Exa Z h a "com/example/dispatchwire/dispatchwire/automation/Decimal" ∧ Fld Z h a "com/example/dispatchwire/dispatchwire/automation/Decimal" "scale" "I" (.int q1) ∧ Fld Z h a "com/example/dispatchwire/dispatchwire/automation/Decimal" "sign" "I" (.int q2) ∧ Fld Z h a "com/example/dispatchwire/dispatchwire/automation/Decimal" "hi32" "I" (.int q3) ∧ Fld Z h a "com/example/dispatchwire/dispatchwire/automation/Decimal" "lo64" "J" (.long q4)
set_option maxRecDepth 65536 in
set_option maxHeartbeats 40000000 in
theorem rm1 (l : Launch) (Z : State) (a0 : Array Value) (hw : ∀ d ∈ tables_1, d.before a0 Z = true) (ws : List Jvm.Cond) (a : Addr) (q1 : Int32) (q2 : Int32) (q3 : Int32) (q4 : Int64) (h0 : Heap) (n0 : Nat) (Z0 : n0 ≤ h0.size) (E_a : Exa Z h0 a "com/example/dispatchwire/dispatchwire/automation/Decimal") (F_scale_a : Fld Z h0 a "com/example/dispatchwire/dispatchwire/automation/Decimal" "scale" "I" (.int (0 : Int32))) (F_sign_a : Fld Z h0 a "com/example/dispatchwire/dispatchwire/automation/Decimal" "sign" "I" (.int (0 : Int32))) (F_hi32_a : Fld Z h0 a "com/example/dispatchwire/dispatchwire/automation/Decimal" "hi32" "I" (.int (0 : Int32))) (F_lo64_a : Fld Z h0 a "com/example/dispatchwire/dispatchwire/automation/Decimal" "lo64" "J" (.long (0 : Int64))) (g_a : n0 ≤ a) (hp : 0 ≤ q1.toInt ∧ q1.toInt ≤ 28 ∧ (q2.toInt = 0 ∨ q2.toInt = 128)) :
    MetFree l (⟨"com/example/dispatchwire/dispatchwire/automation/Decimal", "<init>", "(IIIJ)V"⟩ : MethodName) (head1 (Jvm.Cond.code (⟨"com/example/dispatchwire/dispatchwire/automation/Decimal", "<init>", "(IIIJ)V"⟩ : MethodName) prog_8_method_1_code 6 none :: ws) ({ frames := 2, cells := 0, slots := 0, locals := 24 } : Room)) (fun aa U => aa = #[(.ref a), (.int q1), (.int q2), (.int q3), (.long q4)] ∧ Z.Warmed39 U.vm ∧ U.heap = h0) (fun _ _ _ _ _ => True) (fun _ U o U' => ∃ v L, o = .returned v ∧ Q1 Z a q1 q2 q3 q4 h0 n0 v U'.heap L ∧ FrameEnd U o U' L ({ frames := 2, cells := 0, slots := 0, locals := 24 } : Room).cells ({ frames := 2, cells := 0, slots := 0, locals := 24 } : Room).slots) := by
  refine own_met pf1 ?_
  intro p e s m below meth c T0 hx hby hml hown hret hlk hnm hZ X0 e0
  have N0 := Fr.nil n0
  have K0 := Keep.refl h0 [a]
  have r_q1 := rng32 q1
  have r_q2 := rng32 q2
  have r_q3 := rng32 q3
  have r_q4 := rng64 q4
  rw [ef1]
  refine own_go (mkF m 1 #[.val (.ref a), .val (.int q1), .val (.int q2), .val (.int q3), .val (.long q4), .second] [(.ref a)]) (fun t k => XS.aloadN X0.here hx rfl (hb hby d1_0) rfl rfl k) ?_
  refine own_callI X0 hx hZ (y := (⟨"java/lang/Record", "<init>", "()V"⟩ : MethodName)) hown rfl (hw _ (List.mem_of_getElem? (i := 7) rfl)) (hw _ (List.mem_of_getElem? (i := 8) rfl)) (hw _ (List.mem_of_getElem? (i := 10) rfl)) (hw _ (List.mem_of_getElem? (i := 11) rfl)) (by decide) e0 (rmR l Z a0 hw [] a h0 n0 Z0) 0 (by decide) (by decide) (by decide) (by decide) (g := (mkF m 1 #[.val (.ref a), .val (.int q1), .val (.int q2), .val (.int q3), .val (.long q4), .second] [(.ref a)])) rfl (by rw [hml]; rfl) a [] [] (lenOf pd1_0 rfl) rfl rfl (by show 2 * 0 + _ ≤ _; exact Nat.le_of_eq rfl) (hb hby d1_1) ?_
  intro rv1 T1 h1 L1 X1 e1 hQ1
  obtain ⟨rfl, NQ1, eq1⟩ := hQ1
  rw [eq1] at e1
  have N1 := Fr.app N0 NQ1
  show own_Ends p e below s ({ frames := 2, cells := 0, slots := 0, locals := 24 } : Room).cells ({ frames := 2, cells := 0, slots := 0, locals := 24 } : Room).slots (Q1 Z a q1 q2 q3 q4 h0 n0) T1 (mkF m 4 #[.val (.ref a), .val (.int q1), .val (.int q2), .val (.int q3), .val (.long q4), .second] [])
  refine own_go (mkF m 5 #[.val (.ref a), .val (.int q1), .val (.int q2), .val (.int q3), .val (.long q4), .second] [(.int q1)]) (fun t k => XS.iloadN X1.here hx rfl (hb hby d1_4) rfl k) ?_
  have c5 : ¬ (q1.toInt < 0) := by omega
  refine own_go (mkF m 8 #[.val (.ref a), .val (.int q1), .val (.int q2), .val (.int q3), .val (.long q4), .second] []) (fun t k => XS.ifNo X1.here hx rfl (hb hby d1_5) rfl (own_zF (cd := .lt) c5) k) ?_
  refine own_go (mkF m 9 #[.val (.ref a), .val (.int q1), .val (.int q2), .val (.int q3), .val (.long q4), .second] [(.int q1)]) (fun t k => XS.iloadN X1.here hx rfl (hb hby d1_8) rfl k) ?_
  refine own_go (mkF m 11 #[.val (.ref a), .val (.int q1), .val (.int q2), .val (.int q3), .val (.long q4), .second] [(.int (28 : Int32)), (.int q1)]) (fun t k => XS.bipush X1.here hx rfl (hb hby d1_9) k) ?_
  have c11 : q1.toInt ≤ 28 := by omega
  refine own_go (mkF m 28 #[.val (.ref a), .val (.int q1), .val (.int q2), .val (.int q3), .val (.long q4), .second] []) (fun t k => XS.icmpYes X1.here hx rfl (pc0 := 11) (pc' := 28) rfl (hb hby d1_11) rfl (own_icT (cd := .le) c11) (by decide) (by decide) k) ?_
  refine own_go (mkF m 29 #[.val (.ref a), .val (.int q1), .val (.int q2), .val (.int q3), .val (.long q4), .second] [(.int q2)]) (fun t k => XS.iloadN X1.here hx rfl (hb hby d1_28) rfl k) ?_
  by_cases c29 : q2.toInt = 0
  · skip
    refine own_go (mkF m 53 #[.val (.ref a), .val (.int q1), .val (.int q2), .val (.int q3), .val (.long q4), .second] []) (fun t k => XS.ifYes X1.here hx rfl (pc0 := 29) (pc' := 53) rfl (hb hby d1_29) rfl (own_zT (cd := .eq) c29) (by decide) (by decide) k) ?_
    refine own_go (mkF m 54 #[.val (.ref a), .val (.int q1), .val (.int q2), .val (.int q3), .val (.long q4), .second] [(.ref a)]) (fun t k => XS.aloadN X1.here hx rfl (hb hby d1_53) rfl rfl k) ?_
    refine own_go (mkF m 55 #[.val (.ref a), .val (.int q1), .val (.int q2), .val (.int q3), .val (.long q4), .second] [(.int q1), (.ref a)]) (fun t k => XS.iloadN X1.here hx rfl (hb hby d1_54) rfl k) ?_
    obtain ⟨T55, h55, X55, e55, W55, st55⟩ := putF X1 hx hZ hown (host := "") (Or.inl (hw _ (List.mem_of_getElem? (i := 15) rfl))) Via.refl e1 F_scale_a E_a (Or.inr ⟨(hw _ (List.mem_of_getElem? (i := 16) rfl)), rfl, hnm⟩) (hw _ (List.mem_of_getElem? (i := 2) rfl)) (ty := .int) (by decide) rfl rfl (g := (mkF m 55 #[.val (.ref a), .val (.int q1), .val (.int q2), .val (.int q3), .val (.long q4), .second] [(.int q1), (.ref a)])) rfl rfl (hb hby d1_55)
    have N55 := Fr.snoc X55 N1 g_a
    have E_a_55 := E_a.wr W55
    have K0_55 := K0.wr W55 (Or.inl (List.mem_cons_self ..))
    have F_scale_a_55 := F_scale_a.same W55
    have F_sign_a_55 := F_sign_a.other W55 (Or.inr (slot_ne (Or.inr (hw _ (List.mem_of_getElem? (i := 18) rfl))) (Or.inr (hw _ (List.mem_of_getElem? (i := 16) rfl))) (by decide) (t := .int) (t' := .int) (by decide) (by decide)))
    have F_hi32_a_55 := F_hi32_a.other W55 (Or.inr (slot_ne (Or.inr (hw _ (List.mem_of_getElem? (i := 20) rfl))) (Or.inr (hw _ (List.mem_of_getElem? (i := 16) rfl))) (by decide) (t := .int) (t' := .int) (by decide) (by decide)))
    have F_lo64_a_55 := F_lo64_a.other W55 (Or.inr (slot_ne (Or.inr (hw _ (List.mem_of_getElem? (i := 22) rfl))) (Or.inr (hw _ (List.mem_of_getElem? (i := 16) rfl))) (by decide) (t := .long) (t' := .int) (by decide) (by decide)))
    have Z0_55 : n0 ≤ h55.size := by rw [W55.size]; exact Z0
    refine own_go (T' := T55) (mkF m 58 #[.val (.ref a), .val (.int q1), .val (.int q2), .val (.int q3), .val (.long q4), .second] []) st55 ?_
    refine own_go (mkF m 59 #[.val (.ref a), .val (.int q1), .val (.int q2), .val (.int q3), .val (.long q4), .second] [(.ref a)]) (fun t k => XS.aloadN X55.here hx rfl (hb hby d1_58) rfl rfl k) ?_
    refine own_go (mkF m 60 #[.val (.ref a), .val (.int q1), .val (.int q2), .val (.int q3), .val (.long q4), .second] [(.int q2), (.ref a)]) (fun t k => XS.iloadN X55.here hx rfl (hb hby d1_59) rfl k) ?_
    obtain ⟨T60, h60, X60, e60, W60, st60⟩ := putF X55 hx hZ hown (host := "") (Or.inl (hw _ (List.mem_of_getElem? (i := 17) rfl))) Via.refl e55 F_sign_a_55 E_a_55 (Or.inr ⟨(hw _ (List.mem_of_getElem? (i := 18) rfl)), rfl, hnm⟩) (hw _ (List.mem_of_getElem? (i := 2) rfl)) (ty := .int) (by decide) rfl rfl (g := (mkF m 60 #[.val (.ref a), .val (.int q1), .val (.int q2), .val (.int q3), .val (.long q4), .second] [(.int q2), (.ref a)])) rfl rfl (hb hby d1_60)
    have N60 := Fr.snoc X60 N55 g_a
    have E_a_60 := E_a_55.wr W60
    have K0_60 := K0_55.wr W60 (Or.inl (List.mem_cons_self ..))
    have F_scale_a_60 := F_scale_a_55.other W60 (Or.inr (slot_ne (Or.inr (hw _ (List.mem_of_getElem? (i := 16) rfl))) (Or.inr (hw _ (List.mem_of_getElem? (i := 18) rfl))) (by decide) (t := .int) (t' := .int) (by decide) (by decide)))
    have F_sign_a_60 := F_sign_a_55.same W60
    have F_hi32_a_60 := F_hi32_a_55.other W60 (Or.inr (slot_ne (Or.inr (hw _ (List.mem_of_getElem? (i := 20) rfl))) (Or.inr (hw _ (List.mem_of_getElem? (i := 18) rfl))) (by decide) (t := .int) (t' := .int) (by decide) (by decide)))
    have F_lo64_a_60 := F_lo64_a_55.other W60 (Or.inr (slot_ne (Or.inr (hw _ (List.mem_of_getElem? (i := 22) rfl))) (Or.inr (hw _ (List.mem_of_getElem? (i := 18) rfl))) (by decide) (t := .long) (t' := .int) (by decide) (by decide)))
    have Z0_60 : n0 ≤ h60.size := by rw [W60.size]; exact Z0_55
    refine own_go (T' := T60) (mkF m 63 #[.val (.ref a), .val (.int q1), .val (.int q2), .val (.int q3), .val (.long q4), .second] []) st60 ?_
    refine own_go (mkF m 64 #[.val (.ref a), .val (.int q1), .val (.int q2), .val (.int q3), .val (.long q4), .second] [(.ref a)]) (fun t k => XS.aloadN X60.here hx rfl (hb hby d1_63) rfl rfl k) ?_
    refine own_go (mkF m 65 #[.val (.ref a), .val (.int q1), .val (.int q2), .val (.int q3), .val (.long q4), .second] [(.int q3), (.ref a)]) (fun t k => XS.iloadN X60.here hx rfl (hb hby d1_64) rfl k) ?_
    obtain ⟨T65, h65, X65, e65, W65, st65⟩ := putF X60 hx hZ hown (host := "") (Or.inl (hw _ (List.mem_of_getElem? (i := 19) rfl))) Via.refl e60 F_hi32_a_60 E_a_60 (Or.inr ⟨(hw _ (List.mem_of_getElem? (i := 20) rfl)), rfl, hnm⟩) (hw _ (List.mem_of_getElem? (i := 2) rfl)) (ty := .int) (by decide) rfl rfl (g := (mkF m 65 #[.val (.ref a), .val (.int q1), .val (.int q2), .val (.int q3), .val (.long q4), .second] [(.int q3), (.ref a)])) rfl rfl (hb hby d1_65)
    have N65 := Fr.snoc X65 N60 g_a
    have E_a_65 := E_a_60.wr W65
    have K0_65 := K0_60.wr W65 (Or.inl (List.mem_cons_self ..))
    have F_scale_a_65 := F_scale_a_60.other W65 (Or.inr (slot_ne (Or.inr (hw _ (List.mem_of_getElem? (i := 16) rfl))) (Or.inr (hw _ (List.mem_of_getElem? (i := 20) rfl))) (by decide) (t := .int) (t' := .int) (by decide) (by decide)))
    have F_sign_a_65 := F_sign_a_60.other W65 (Or.inr (slot_ne (Or.inr (hw _ (List.mem_of_getElem? (i := 18) rfl))) (Or.inr (hw _ (List.mem_of_getElem? (i := 20) rfl))) (by decide) (t := .int) (t' := .int) (by decide) (by decide)))
    have F_hi32_a_65 := F_hi32_a_60.same W65
    have F_lo64_a_65 := F_lo64_a_60.other W65 (Or.inr (slot_ne (Or.inr (hw _ (List.mem_of_getElem? (i := 22) rfl))) (Or.inr (hw _ (List.mem_of_getElem? (i := 20) rfl))) (by decide) (t := .long) (t' := .int) (by decide) (by decide)))
    have Z0_65 : n0 ≤ h65.size := by rw [W65.size]; exact Z0_60
    refine own_go (T' := T65) (mkF m 68 #[.val (.ref a), .val (.int q1), .val (.int q2), .val (.int q3), .val (.long q4), .second] []) st65 ?_
    refine own_go (mkF m 69 #[.val (.ref a), .val (.int q1), .val (.int q2), .val (.int q3), .val (.long q4), .second] [(.ref a)]) (fun t k => XS.aloadN X65.here hx rfl (hb hby d1_68) rfl rfl k) ?_
    refine own_go (mkF m 71 #[.val (.ref a), .val (.int q1), .val (.int q2), .val (.int q3), .val (.long q4), .second] [(.long q4), (.ref a)]) (fun t k => XS.lload X65.here hx rfl (hb hby d1_69) rfl k) ?_
    obtain ⟨T71, h71, X71, e71, W71, st71⟩ := putF X65 hx hZ hown (host := "") (Or.inl (hw _ (List.mem_of_getElem? (i := 21) rfl))) Via.refl e65 F_lo64_a_65 E_a_65 (Or.inr ⟨(hw _ (List.mem_of_getElem? (i := 22) rfl)), rfl, hnm⟩) (hw _ (List.mem_of_getElem? (i := 2) rfl)) (ty := .long) (by decide) rfl rfl (g := (mkF m 71 #[.val (.ref a), .val (.int q1), .val (.int q2), .val (.int q3), .val (.long q4), .second] [(.long q4), (.ref a)])) rfl rfl (hb hby d1_71)
    have N71 := Fr.snoc X71 N65 g_a
    have E_a_71 := E_a_65.wr W71
    have K0_71 := K0_65.wr W71 (Or.inl (List.mem_cons_self ..))
    have F_scale_a_71 := F_scale_a_65.other W71 (Or.inr (slot_ne (Or.inr (hw _ (List.mem_of_getElem? (i := 16) rfl))) (Or.inr (hw _ (List.mem_of_getElem? (i := 22) rfl))) (by decide) (t := .int) (t' := .long) (by decide) (by decide)))
    have F_sign_a_71 := F_sign_a_65.other W71 (Or.inr (slot_ne (Or.inr (hw _ (List.mem_of_getElem? (i := 18) rfl))) (Or.inr (hw _ (List.mem_of_getElem? (i := 22) rfl))) (by decide) (t := .int) (t' := .long) (by decide) (by decide)))
    have F_hi32_a_71 := F_hi32_a_65.other W71 (Or.inr (slot_ne (Or.inr (hw _ (List.mem_of_getElem? (i := 20) rfl))) (Or.inr (hw _ (List.mem_of_getElem? (i := 22) rfl))) (by decide) (t := .int) (t' := .long) (by decide) (by decide)))
    have F_lo64_a_71 := F_lo64_a_65.same W71
    have Z0_71 : n0 ≤ h71.size := by rw [W71.size]; exact Z0_65
    refine own_go (T' := T71) (mkF m 74 #[.val (.ref a), .val (.int q1), .val (.int q2), .val (.int q3), .val (.long q4), .second] []) st71 ?_
    refine own_ret0 X71 hx hlk hret (hb hby d1_74) (by decide) (by decide) ?_
    rw [e71]
    exact ⟨rfl, N71, K0_71, E_a_71, F_scale_a_71, F_sign_a_71, F_hi32_a_71, F_lo64_a_71⟩
  · skip
    refine own_go (mkF m 32 #[.val (.ref a), .val (.int q1), .val (.int q2), .val (.int q3), .val (.long q4), .second] []) (fun t k => XS.ifNo X1.here hx rfl (hb hby d1_29) rfl (own_zF (cd := .eq) c29) k) ?_
    refine own_go (mkF m 33 #[.val (.ref a), .val (.int q1), .val (.int q2), .val (.int q3), .val (.long q4), .second] [(.int q2)]) (fun t k => XS.iloadN X1.here hx rfl (hb hby d1_32) rfl k) ?_
    refine own_go (mkF m 36 #[.val (.ref a), .val (.int q1), .val (.int q2), .val (.int q3), .val (.long q4), .second] [(.int (128 : Int32)), (.int q2)]) (fun t k => XS.sipush X1.here hx rfl (hb hby d1_33) k) ?_
    have c36 : q2.toInt = 128 := by omega
    refine own_go (mkF m 53 #[.val (.ref a), .val (.int q1), .val (.int q2), .val (.int q3), .val (.long q4), .second] []) (fun t k => XS.icmpYes X1.here hx rfl (pc0 := 36) (pc' := 53) rfl (hb hby d1_36) rfl (own_icT (cd := .eq) c36) (by decide) (by decide) k) ?_
    refine own_go (mkF m 54 #[.val (.ref a), .val (.int q1), .val (.int q2), .val (.int q3), .val (.long q4), .second] [(.ref a)]) (fun t k => XS.aloadN X1.here hx rfl (hb hby d1_53) rfl rfl k) ?_
    refine own_go (mkF m 55 #[.val (.ref a), .val (.int q1), .val (.int q2), .val (.int q3), .val (.long q4), .second] [(.int q1), (.ref a)]) (fun t k => XS.iloadN X1.here hx rfl (hb hby d1_54) rfl k) ?_
    obtain ⟨T55, h55, X55, e55, W55, st55⟩ := putF X1 hx hZ hown (host := "") (Or.inl (hw _ (List.mem_of_getElem? (i := 15) rfl))) Via.refl e1 F_scale_a E_a (Or.inr ⟨(hw _ (List.mem_of_getElem? (i := 16) rfl)), rfl, hnm⟩) (hw _ (List.mem_of_getElem? (i := 2) rfl)) (ty := .int) (by decide) rfl rfl (g := (mkF m 55 #[.val (.ref a), .val (.int q1), .val (.int q2), .val (.int q3), .val (.long q4), .second] [(.int q1), (.ref a)])) rfl rfl (hb hby d1_55)
    have N55 := Fr.snoc X55 N1 g_a
    have E_a_55 := E_a.wr W55
    have K0_55 := K0.wr W55 (Or.inl (List.mem_cons_self ..))
    have F_scale_a_55 := F_scale_a.same W55
    have F_sign_a_55 := F_sign_a.other W55 (Or.inr (slot_ne (Or.inr (hw _ (List.mem_of_getElem? (i := 18) rfl))) (Or.inr (hw _ (List.mem_of_getElem? (i := 16) rfl))) (by decide) (t := .int) (t' := .int) (by decide) (by decide)))
    have F_hi32_a_55 := F_hi32_a.other W55 (Or.inr (slot_ne (Or.inr (hw _ (List.mem_of_getElem? (i := 20) rfl))) (Or.inr (hw _ (List.mem_of_getElem? (i := 16) rfl))) (by decide) (t := .int) (t' := .int) (by decide) (by decide)))
    have F_lo64_a_55 := F_lo64_a.other W55 (Or.inr (slot_ne (Or.inr (hw _ (List.mem_of_getElem? (i := 22) rfl))) (Or.inr (hw _ (List.mem_of_getElem? (i := 16) rfl))) (by decide) (t := .long) (t' := .int) (by decide) (by decide)))
    have Z0_55 : n0 ≤ h55.size := by rw [W55.size]; exact Z0
    refine own_go (T' := T55) (mkF m 58 #[.val (.ref a), .val (.int q1), .val (.int q2), .val (.int q3), .val (.long q4), .second] []) st55 ?_
    refine own_go (mkF m 59 #[.val (.ref a), .val (.int q1), .val (.int q2), .val (.int q3), .val (.long q4), .second] [(.ref a)]) (fun t k => XS.aloadN X55.here hx rfl (hb hby d1_58) rfl rfl k) ?_
    refine own_go (mkF m 60 #[.val (.ref a), .val (.int q1), .val (.int q2), .val (.int q3), .val (.long q4), .second] [(.int q2), (.ref a)]) (fun t k => XS.iloadN X55.here hx rfl (hb hby d1_59) rfl k) ?_
    obtain ⟨T60, h60, X60, e60, W60, st60⟩ := putF X55 hx hZ hown (host := "") (Or.inl (hw _ (List.mem_of_getElem? (i := 17) rfl))) Via.refl e55 F_sign_a_55 E_a_55 (Or.inr ⟨(hw _ (List.mem_of_getElem? (i := 18) rfl)), rfl, hnm⟩) (hw _ (List.mem_of_getElem? (i := 2) rfl)) (ty := .int) (by decide) rfl rfl (g := (mkF m 60 #[.val (.ref a), .val (.int q1), .val (.int q2), .val (.int q3), .val (.long q4), .second] [(.int q2), (.ref a)])) rfl rfl (hb hby d1_60)
    have N60 := Fr.snoc X60 N55 g_a
    have E_a_60 := E_a_55.wr W60
    have K0_60 := K0_55.wr W60 (Or.inl (List.mem_cons_self ..))
    have F_scale_a_60 := F_scale_a_55.other W60 (Or.inr (slot_ne (Or.inr (hw _ (List.mem_of_getElem? (i := 16) rfl))) (Or.inr (hw _ (List.mem_of_getElem? (i := 18) rfl))) (by decide) (t := .int) (t' := .int) (by decide) (by decide)))
    have F_sign_a_60 := F_sign_a_55.same W60
    have F_hi32_a_60 := F_hi32_a_55.other W60 (Or.inr (slot_ne (Or.inr (hw _ (List.mem_of_getElem? (i := 20) rfl))) (Or.inr (hw _ (List.mem_of_getElem? (i := 18) rfl))) (by decide) (t := .int) (t' := .int) (by decide) (by decide)))
    have F_lo64_a_60 := F_lo64_a_55.other W60 (Or.inr (slot_ne (Or.inr (hw _ (List.mem_of_getElem? (i := 22) rfl))) (Or.inr (hw _ (List.mem_of_getElem? (i := 18) rfl))) (by decide) (t := .long) (t' := .int) (by decide) (by decide)))
    have Z0_60 : n0 ≤ h60.size := by rw [W60.size]; exact Z0_55
    refine own_go (T' := T60) (mkF m 63 #[.val (.ref a), .val (.int q1), .val (.int q2), .val (.int q3), .val (.long q4), .second] []) st60 ?_
    refine own_go (mkF m 64 #[.val (.ref a), .val (.int q1), .val (.int q2), .val (.int q3), .val (.long q4), .second] [(.ref a)]) (fun t k => XS.aloadN X60.here hx rfl (hb hby d1_63) rfl rfl k) ?_
    refine own_go (mkF m 65 #[.val (.ref a), .val (.int q1), .val (.int q2), .val (.int q3), .val (.long q4), .second] [(.int q3), (.ref a)]) (fun t k => XS.iloadN X60.here hx rfl (hb hby d1_64) rfl k) ?_
    obtain ⟨T65, h65, X65, e65, W65, st65⟩ := putF X60 hx hZ hown (host := "") (Or.inl (hw _ (List.mem_of_getElem? (i := 19) rfl))) Via.refl e60 F_hi32_a_60 E_a_60 (Or.inr ⟨(hw _ (List.mem_of_getElem? (i := 20) rfl)), rfl, hnm⟩) (hw _ (List.mem_of_getElem? (i := 2) rfl)) (ty := .int) (by decide) rfl rfl (g := (mkF m 65 #[.val (.ref a), .val (.int q1), .val (.int q2), .val (.int q3), .val (.long q4), .second] [(.int q3), (.ref a)])) rfl rfl (hb hby d1_65)
    have N65 := Fr.snoc X65 N60 g_a
    have E_a_65 := E_a_60.wr W65
    have K0_65 := K0_60.wr W65 (Or.inl (List.mem_cons_self ..))
    have F_scale_a_65 := F_scale_a_60.other W65 (Or.inr (slot_ne (Or.inr (hw _ (List.mem_of_getElem? (i := 16) rfl))) (Or.inr (hw _ (List.mem_of_getElem? (i := 20) rfl))) (by decide) (t := .int) (t' := .int) (by decide) (by decide)))
    have F_sign_a_65 := F_sign_a_60.other W65 (Or.inr (slot_ne (Or.inr (hw _ (List.mem_of_getElem? (i := 18) rfl))) (Or.inr (hw _ (List.mem_of_getElem? (i := 20) rfl))) (by decide) (t := .int) (t' := .int) (by decide) (by decide)))
    have F_hi32_a_65 := F_hi32_a_60.same W65
    have F_lo64_a_65 := F_lo64_a_60.other W65 (Or.inr (slot_ne (Or.inr (hw _ (List.mem_of_getElem? (i := 22) rfl))) (Or.inr (hw _ (List.mem_of_getElem? (i := 20) rfl))) (by decide) (t := .long) (t' := .int) (by decide) (by decide)))
    have Z0_65 : n0 ≤ h65.size := by rw [W65.size]; exact Z0_60
    refine own_go (T' := T65) (mkF m 68 #[.val (.ref a), .val (.int q1), .val (.int q2), .val (.int q3), .val (.long q4), .second] []) st65 ?_
    refine own_go (mkF m 69 #[.val (.ref a), .val (.int q1), .val (.int q2), .val (.int q3), .val (.long q4), .second] [(.ref a)]) (fun t k => XS.aloadN X65.here hx rfl (hb hby d1_68) rfl rfl k) ?_
    refine own_go (mkF m 71 #[.val (.ref a), .val (.int q1), .val (.int q2), .val (.int q3), .val (.long q4), .second] [(.long q4), (.ref a)]) (fun t k => XS.lload X65.here hx rfl (hb hby d1_69) rfl k) ?_
    obtain ⟨T71, h71, X71, e71, W71, st71⟩ := putF X65 hx hZ hown (host := "") (Or.inl (hw _ (List.mem_of_getElem? (i := 21) rfl))) Via.refl e65 F_lo64_a_65 E_a_65 (Or.inr ⟨(hw _ (List.mem_of_getElem? (i := 22) rfl)), rfl, hnm⟩) (hw _ (List.mem_of_getElem? (i := 2) rfl)) (ty := .long) (by decide) rfl rfl (g := (mkF m 71 #[.val (.ref a), .val (.int q1), .val (.int q2), .val (.int q3), .val (.long q4), .second] [(.long q4), (.ref a)])) rfl rfl (hb hby d1_71)
    have N71 := Fr.snoc X71 N65 g_a
    have E_a_71 := E_a_65.wr W71
    have K0_71 := K0_65.wr W71 (Or.inl (List.mem_cons_self ..))
    have F_scale_a_71 := F_scale_a_65.other W71 (Or.inr (slot_ne (Or.inr (hw _ (List.mem_of_getElem? (i := 16) rfl))) (Or.inr (hw _ (List.mem_of_getElem? (i := 22) rfl))) (by decide) (t := .int) (t' := .long) (by decide) (by decide)))
    have F_sign_a_71 := F_sign_a_65.other W71 (Or.inr (slot_ne (Or.inr (hw _ (List.mem_of_getElem? (i := 18) rfl))) (Or.inr (hw _ (List.mem_of_getElem? (i := 22) rfl))) (by decide) (t := .int) (t' := .long) (by decide) (by decide)))
    have F_hi32_a_71 := F_hi32_a_65.other W71 (Or.inr (slot_ne (Or.inr (hw _ (List.mem_of_getElem? (i := 20) rfl))) (Or.inr (hw _ (List.mem_of_getElem? (i := 22) rfl))) (by decide) (t := .int) (t' := .long) (by decide) (by decide)))
    have F_lo64_a_71 := F_lo64_a_65.same W71
    have Z0_71 : n0 ≤ h71.size := by rw [W71.size]; exact Z0_65
    refine own_go (T' := T71) (mkF m 74 #[.val (.ref a), .val (.int q1), .val (.int q2), .val (.int q3), .val (.long q4), .second] []) st71 ?_
    refine own_ret0 X71 hx hlk hret (hb hby d1_74) (by decide) (by decide) ?_
    rw [e71]
    exact ⟨rfl, N71, K0_71, E_a_71, F_scale_a_71, F_sign_a_71, F_hi32_a_71, F_lo64_a_71⟩
theorem d2_0 : decode prog_8_method_3_code 0 = .ok (.aload_n 0, 1) := by decide +kernel
theorem d2_1 : decode prog_8_method_3_code 1 = .ok (.getfield 23, 3) := by decide +kernel
theorem d2_4 : decode prog_8_method_3_code 4 = .ok (.sipush 128, 3) := by decide +kernel
theorem d2_7 : decode prog_8_method_3_code 7 = .ok (.if_icmp .ne 7, 3) := by decide +kernel
theorem d2_10 : decode prog_8_method_3_code 10 = .ok (.iconst 1, 1) := by decide +kernel
theorem d2_11 : decode prog_8_method_3_code 11 = .ok (.goto 4, 3) := by decide +kernel
theorem d2_14 : decode prog_8_method_3_code 14 = .ok (.iconst 0, 1) := by decide +kernel
theorem d2_15 : decode prog_8_method_3_code 15 = .ok (.ireturn, 1) := by decide +kernel
theorem pf2 : plainFor (⟨"com/example/dispatchwire/dispatchwire/automation/Decimal", "negative", "()Z"⟩ : MethodName) = true := by decide +kernel
theorem ef2 (m : MethodId) (a : Addr) : entryFrame m #[(.ref a)] 1 = (mkF m 0 #[.val (.ref a)] []) := by first | rfl | (simp [entryFrame, mkF, argsToLocals, Value.category, maxLocals]; done)
def Q2 (Z : State) (a : Addr) (w1 : Int32) (h0 : Heap) (n0 : Nat) (v : Option Value) (h : Heap) (L : List Loc) : Prop := (∃ r : Int32, v = some (.int r) ∧ (r.toInt = 1 ∧ w1.toInt = 128 ∨ r.toInt = 0 ∧ ¬ w1.toInt = 128)) ∧ Fr n0 L ∧ h = h0
set_option maxRecDepth 65536 in
set_option maxHeartbeats 40000000 in
theorem rm2 (l : Launch) (Z : State) (a0 : Array Value) (hw : ∀ d ∈ tables_1, d.before a0 Z = true) (ws : List Jvm.Cond) (a : Addr) (w1 : Int32) (h0 : Heap) (n0 : Nat) (Z0 : n0 ≤ h0.size) (F_sign_a : Fld Z h0 a "com/example/dispatchwire/dispatchwire/automation/Decimal" "sign" "I" (.int w1)) :
    MetFree l (⟨"com/example/dispatchwire/dispatchwire/automation/Decimal", "negative", "()Z"⟩ : MethodName) (head1 (Jvm.Cond.code (⟨"com/example/dispatchwire/dispatchwire/automation/Decimal", "negative", "()Z"⟩ : MethodName) prog_8_method_3_code 1 (some Jvm.ClassFile.FieldType.boolean) :: ws) ({ frames := 0, cells := 0, slots := 0, locals := 0 } : Room)) (fun aa U => aa = #[(.ref a)] ∧ Z.Warmed39 U.vm ∧ U.heap = h0) (fun _ _ _ _ _ => True) (fun _ U o U' => ∃ v L, o = .returned v ∧ Q2 Z a w1 h0 n0 v U'.heap L ∧ FrameEnd U o U' L ({ frames := 0, cells := 0, slots := 0, locals := 0 } : Room).cells ({ frames := 0, cells := 0, slots := 0, locals := 0 } : Room).slots) := by
  refine own_met pf2 ?_
  intro p e s m below meth c T0 hx hby hml hown hret hlk hnm hZ X0 e0
  have N0 := Fr.nil n0
  rw [ef2]
  refine own_go (mkF m 1 #[.val (.ref a)] [(.ref a)]) (fun t k => XS.aloadN X0.here hx rfl (hb hby d2_0) rfl rfl k) ?_
  obtain ⟨T1, X1, e1, st1⟩ := getF X0 hx hZ hown (host := "") (Or.inl (hw _ (List.mem_of_getElem? (i := 17) rfl))) Via.refl e0 F_sign_a (g := (mkF m 1 #[.val (.ref a)] [(.ref a)])) rfl rfl (hb hby d2_1)
  refine own_go (T' := T1) (mkF m 4 #[.val (.ref a)] [(.int w1)]) st1 ?_
  refine own_go (mkF m 7 #[.val (.ref a)] [(.int (128 : Int32)), (.int w1)]) (fun t k => XS.sipush X1.here hx rfl (hb hby d2_4) k) ?_
  by_cases c7 : w1.toInt = 128
  · skip
    refine own_go (mkF m 10 #[.val (.ref a)] []) (fun t k => XS.icmpNo X1.here hx rfl (hb hby d2_7) rfl (own_icF (cd := .ne) (fun q => q c7)) k) ?_
    refine own_go (mkF m 11 #[.val (.ref a)] [(.int (1 : Int32))]) (fun t k => XS.iconst X1.here hx rfl (hb hby d2_10) k) ?_
    refine own_go (mkF m 15 #[.val (.ref a)] [(.int (1 : Int32))]) (fun t k => XS.goto X1.here hx rfl (pc0 := 11) (pc' := 15) rfl (hb hby d2_11) (by decide) (by decide) k) ?_
    refine own_retI X1 hx hlk hret (by simp) rfl (hb hby d2_15) (by decide) (by decide) ?_
    rw [e1]
    exact ⟨⟨_, rfl, Or.inl ⟨rfl, by omega⟩⟩, N0, rfl⟩
  · skip
    refine own_go (mkF m 14 #[.val (.ref a)] []) (fun t k => XS.icmpYes X1.here hx rfl (pc0 := 7) (pc' := 14) rfl (hb hby d2_7) rfl (own_icT (cd := .ne) c7) (by decide) (by decide) k) ?_
    refine own_go (mkF m 15 #[.val (.ref a)] [(.int (0 : Int32))]) (fun t k => XS.iconst X1.here hx rfl (hb hby d2_14) k) ?_
    refine own_retI X1 hx hlk hret (by simp) rfl (hb hby d2_15) (by decide) (by decide) ?_
    rw [e1]
    exact ⟨⟨_, rfl, Or.inr ⟨rfl, by omega⟩⟩, N0, rfl⟩
theorem own_x128 {w v : Int32} (hv : w ^^^ (128 : Int32) = v) (h : w.toInt = 0 ∨ w.toInt = 128) : v.toInt = 128 - w.toInt := by
  rcases h with h | h
  · obtain rfl : w = 0 := Int32.toInt_inj.mp (by rw [h]; rfl)
    rw [← hv]; rfl
  · obtain rfl : w = 128 := Int32.toInt_inj.mp (by rw [h]; rfl)
    rw [← hv]; rfl
theorem d3_0 : decode prog_8_method_6_code 0 = .ok (.new 7, 3) := by decide +kernel
theorem d3_3 : decode prog_8_method_6_code 3 = .ok (.dup, 1) := by decide +kernel
theorem d3_4 : decode prog_8_method_6_code 4 = .ok (.aload_n 0, 1) := by decide +kernel
theorem d3_5 : decode prog_8_method_6_code 5 = .ok (.getfield 19, 3) := by decide +kernel
theorem d3_8 : decode prog_8_method_6_code 8 = .ok (.aload_n 0, 1) := by decide +kernel
theorem d3_9 : decode prog_8_method_6_code 9 = .ok (.getfield 23, 3) := by decide +kernel
theorem d3_12 : decode prog_8_method_6_code 12 = .ok (.sipush 128, 3) := by decide +kernel
theorem d3_15 : decode prog_8_method_6_code 15 = .ok (.ixor, 1) := by decide +kernel
theorem d3_16 : decode prog_8_method_6_code 16 = .ok (.aload_n 0, 1) := by decide +kernel
theorem d3_17 : decode prog_8_method_6_code 17 = .ok (.getfield 26, 3) := by decide +kernel
theorem d3_20 : decode prog_8_method_6_code 20 = .ok (.aload_n 0, 1) := by decide +kernel
theorem d3_21 : decode prog_8_method_6_code 21 = .ok (.getfield 29, 3) := by decide +kernel
theorem d3_24 : decode prog_8_method_6_code 24 = .ok (.invokespecial 98, 3) := by decide +kernel
theorem d3_27 : decode prog_8_method_6_code 27 = .ok (.areturn, 1) := by decide +kernel
theorem pd3_0 : parseMethodDescriptor "(IIIJ)V" = some ⟨[.int, .int, .int, .long], none⟩ := by decide +kernel
theorem pf3 : plainFor (⟨"com/example/dispatchwire/dispatchwire/automation/Decimal", "negate", "()Lcom/example/dispatchwire/dispatchwire/automation/Decimal;"⟩ : MethodName) = true := by decide +kernel
theorem ef3 (m : MethodId) (a : Addr) : entryFrame m #[(.ref a)] 1 = (mkF m 0 #[.val (.ref a)] []) := by first | rfl | (simp [entryFrame, mkF, argsToLocals, Value.category, maxLocals]; done)
def Q3 (Z : State) (a : Addr) (w1 : Int32) (w2 : Int32) (w3 : Int32) (w4 : Int64) (h0 : Heap) (n0 : Nat) (v : Option Value) (h : Heap) (L : List Loc) : Prop := ∃ b s', v = some (.ref b) ∧ s'.toInt = 128 - w2.toInt ∧ Fr n0 L ∧ Keep h0 h [] ∧ Exa Z h b "com/example/dispatchwire/dispatchwire/automation/Decimal" ∧ Fld Z h b "com/example/dispatchwire/dispatchwire/automation/Decimal" "sign" "I" (.int s')
set_option maxRecDepth 65536 in
set_option maxHeartbeats 40000000 in
theorem rm3 (l : Launch) (Z : State) (a0 : Array Value) (hw : ∀ d ∈ tables_1, d.before a0 Z = true) (ws : List Jvm.Cond) (a : Addr) (w1 : Int32) (w2 : Int32) (w3 : Int32) (w4 : Int64) (h0 : Heap) (n0 : Nat) (Z0 : n0 ≤ h0.size) (E_a : Exa Z h0 a "com/example/dispatchwire/dispatchwire/automation/Decimal") (F_scale_a : Fld Z h0 a "com/example/dispatchwire/dispatchwire/automation/Decimal" "scale" "I" (.int w1)) (F_sign_a : Fld Z h0 a "com/example/dispatchwire/dispatchwire/automation/Decimal" "sign" "I" (.int w2)) (F_hi32_a : Fld Z h0 a "com/example/dispatchwire/dispatchwire/automation/Decimal" "hi32" "I" (.int w3)) (F_lo64_a : Fld Z h0 a "com/example/dispatchwire/dispatchwire/automation/Decimal" "lo64" "J" (.long w4)) (hp : 0 ≤ w1.toInt ∧ w1.toInt ≤ 28 ∧ (w2.toInt = 0 ∨ w2.toInt = 128)) :
    MetFree l (⟨"com/example/dispatchwire/dispatchwire/automation/Decimal", "negate", "()Lcom/example/dispatchwire/dispatchwire/automation/Decimal;"⟩ : MethodName) (head1 (Jvm.Cond.code (⟨"com/example/dispatchwire/dispatchwire/automation/Decimal", "negate", "()Lcom/example/dispatchwire/dispatchwire/automation/Decimal;"⟩ : MethodName) prog_8_method_6_code 1 (some (Jvm.ClassFile.FieldType.object "com/example/dispatchwire/dispatchwire/automation/Decimal")) :: ws) ({ frames := 3, cells := 1, slots := 4, locals := 48 } : Room)) (fun aa U => aa = #[(.ref a)] ∧ Z.Warmed39 U.vm ∧ U.heap = h0) (fun _ _ _ _ _ => True) (fun _ U o U' => ∃ v L, o = .returned v ∧ Q3 Z a w1 w2 w3 w4 h0 n0 v U'.heap L ∧ FrameEnd U o U' L ({ frames := 3, cells := 1, slots := 4, locals := 48 } : Room).cells ({ frames := 3, cells := 1, slots := 4, locals := 48 } : Room).slots) := by
  refine own_met pf3 ?_
  intro p e s m below meth c T0 hx hby hml hown hret hlk hnm hZ X0 e0
  have N0 := Fr.nil n0
  have K0 := Keep.refl h0 ([] : List Addr)
  rw [ef3]
  obtain ⟨T00, h00, X00, e00, E00, A00, D00, -, st00⟩ := newO X0 hx hZ hown (hw _ (List.mem_of_getElem? (i := 33) rfl)) (hw _ (List.mem_of_getElem? (i := 2) rfl)) (hw _ (List.mem_of_getElem? (i := 3) rfl)) e0 (g := (mkF m 0 #[.val (.ref a)] [])) rfl (hb hby d3_0) (by decide) (by decide)
  obtain ⟨b00, g00⟩ : ∃ z, z = h0.size := ⟨_, rfl⟩
  rw [← g00] at A00 D00 st00
  have gb00 : n0 ≤ b00 := Nat.le_trans Z0 (Nat.le_of_eq g00.symm)
  have ne_a_b00 : a ≠ b00 := fun q => Nat.lt_irrefl h0.size (by have := E_a.lt; rw [q, g00] at this; exact this)
  have F_scale_a_00 := F_scale_a.ext E00
  have F_sign_a_00 := F_sign_a.ext E00
  have F_hi32_a_00 := F_hi32_a.ext E00
  have F_lo64_a_00 := F_lo64_a.ext E00
  have E_a_00 := E_a.ext E00
  have K0_00 := K0.ext E00
  have Z0_00 : n0 ≤ h00.size := Nat.le_trans Z0 E00.1
  have in00 : b00 ∈ ([] : List Addr) ∨ h0.size ≤ b00 := Or.inr (Nat.le_trans K0.1 (Nat.le_of_eq g00.symm))
  have F_scale_b00 : Fld Z h00 b00 "com/example/dispatchwire/dispatchwire/automation/Decimal" "scale" "I" (.int (0 : Int32)) := D00 (Or.inr (hw _ (List.mem_of_getElem? (i := 16) rfl))) (ty := .int) (by decide)
  have F_sign_b00 : Fld Z h00 b00 "com/example/dispatchwire/dispatchwire/automation/Decimal" "sign" "I" (.int (0 : Int32)) := D00 (Or.inr (hw _ (List.mem_of_getElem? (i := 18) rfl))) (ty := .int) (by decide)
  have F_hi32_b00 : Fld Z h00 b00 "com/example/dispatchwire/dispatchwire/automation/Decimal" "hi32" "I" (.int (0 : Int32)) := D00 (Or.inr (hw _ (List.mem_of_getElem? (i := 20) rfl))) (ty := .int) (by decide)
  have F_lo64_b00 : Fld Z h00 b00 "com/example/dispatchwire/dispatchwire/automation/Decimal" "lo64" "J" (.long (0 : Int64)) := D00 (Or.inr (hw _ (List.mem_of_getElem? (i := 22) rfl))) (ty := .long) (by decide)
  refine own_go (T' := T00) (mkF m 3 #[.val (.ref a)] [(.ref b00)]) st00 ?_
  refine own_go (mkF m 4 #[.val (.ref a)] [(.ref b00), (.ref b00)]) (fun t k => XS.dup X00.here hx rfl (hb hby d3_3) rfl rfl k) ?_
  refine own_go (mkF m 5 #[.val (.ref a)] [(.ref a), (.ref b00), (.ref b00)]) (fun t k => XS.aloadN X00.here hx rfl (hb hby d3_4) rfl rfl k) ?_
  obtain ⟨T5, X5, e5, st5⟩ := getF X00 hx hZ hown (host := "") (Or.inl (hw _ (List.mem_of_getElem? (i := 15) rfl))) Via.refl e00 F_scale_a_00 (g := (mkF m 5 #[.val (.ref a)] [(.ref a), (.ref b00), (.ref b00)])) rfl rfl (hb hby d3_5)
  refine own_go (T' := T5) (mkF m 8 #[.val (.ref a)] [(.int w1), (.ref b00), (.ref b00)]) st5 ?_
  refine own_go (mkF m 9 #[.val (.ref a)] [(.ref a), (.int w1), (.ref b00), (.ref b00)]) (fun t k => XS.aloadN X5.here hx rfl (hb hby d3_8) rfl rfl k) ?_
  obtain ⟨T9, X9, e9, st9⟩ := getF X5 hx hZ hown (host := "") (Or.inl (hw _ (List.mem_of_getElem? (i := 17) rfl))) Via.refl e5 F_sign_a_00 (g := (mkF m 9 #[.val (.ref a)] [(.ref a), (.int w1), (.ref b00), (.ref b00)])) rfl rfl (hb hby d3_9)
  refine own_go (T' := T9) (mkF m 12 #[.val (.ref a)] [(.int w2), (.int w1), (.ref b00), (.ref b00)]) st9 ?_
  refine own_go (mkF m 15 #[.val (.ref a)] [(.int (128 : Int32)), (.int w2), (.int w1), (.ref b00), (.ref b00)]) (fun t k => XS.sipush X9.here hx rfl (hb hby d3_12) k) ?_
  refine own_go (mkF m 16 #[.val (.ref a)] [(.int (w2 ^^^ (128 : Int32))), (.int w1), (.ref b00), (.ref b00)]) (fun t k => XS.ixor X9.here hx rfl (hb hby d3_15) rfl k) ?_
  generalize hv15 : (w2 ^^^ (128 : Int32)) = v15
  have r15 := rng32 v15
  have f15 := own_x128 hv15 hp.2.2
  refine own_go (mkF m 17 #[.val (.ref a)] [(.ref a), (.int v15), (.int w1), (.ref b00), (.ref b00)]) (fun t k => XS.aloadN X9.here hx rfl (hb hby d3_16) rfl rfl k) ?_
  obtain ⟨T17, X17, e17, st17⟩ := getF X9 hx hZ hown (host := "") (Or.inl (hw _ (List.mem_of_getElem? (i := 19) rfl))) Via.refl e9 F_hi32_a_00 (g := (mkF m 17 #[.val (.ref a)] [(.ref a), (.int v15), (.int w1), (.ref b00), (.ref b00)])) rfl rfl (hb hby d3_17)
  refine own_go (T' := T17) (mkF m 20 #[.val (.ref a)] [(.int w3), (.int v15), (.int w1), (.ref b00), (.ref b00)]) st17 ?_
  refine own_go (mkF m 21 #[.val (.ref a)] [(.ref a), (.int w3), (.int v15), (.int w1), (.ref b00), (.ref b00)]) (fun t k => XS.aloadN X17.here hx rfl (hb hby d3_20) rfl rfl k) ?_
  obtain ⟨T21, X21, e21, st21⟩ := getF X17 hx hZ hown (host := "") (Or.inl (hw _ (List.mem_of_getElem? (i := 21) rfl))) Via.refl e17 F_lo64_a_00 (g := (mkF m 21 #[.val (.ref a)] [(.ref a), (.int w3), (.int v15), (.int w1), (.ref b00), (.ref b00)])) rfl rfl (hb hby d3_21)
  refine own_go (T' := T21) (mkF m 24 #[.val (.ref a)] [(.long w4), (.int w3), (.int v15), (.int w1), (.ref b00), (.ref b00)]) st21 ?_
  refine own_callI X21 hx hZ (y := (⟨"com/example/dispatchwire/dispatchwire/automation/Decimal", "<init>", "(IIIJ)V"⟩ : MethodName)) hown rfl (hw _ (List.mem_of_getElem? (i := 34) rfl)) (hw _ (List.mem_of_getElem? (i := 5) rfl)) (hw _ (List.mem_of_getElem? (i := 3) rfl)) (hw _ (List.mem_of_getElem? (i := 6) rfl)) (by decide) e21 (rm1 l Z a0 hw [] b00 w1 v15 w3 w4 h00 n0 Z0_00 A00 F_scale_b00 F_sign_b00 F_hi32_b00 F_lo64_b00 gb00 (by omega)) 1 (by decide) (by decide) (by decide) (by decide) (g := (mkF m 24 #[.val (.ref a)] [(.long w4), (.int w3), (.int v15), (.int w1), (.ref b00), (.ref b00)])) rfl (by rw [hml]; rfl) b00 [(.int w1), (.int v15), (.int w3), (.long w4)] [(.ref b00)] (lenOf pd3_0 rfl) rfl rfl (by show 2 * 0 + _ ≤ _; exact Nat.le_of_eq rfl) (hb hby d3_24) ?_
  intro rv24 T24 h24 L24 X24 e24 hQ24
  obtain ⟨rfl, NQ24, KQ24, EQ24, F_scale_b00_24, F_sign_b00_24, F_hi32_b00_24, F_lo64_b00_24⟩ := hQ24
  have F_scale_a_24 := F_scale_a_00.keep KQ24 (ninS ne_a_b00 nin0)
  have F_sign_a_24 := F_sign_a_00.keep KQ24 (ninS ne_a_b00 nin0)
  have F_hi32_a_24 := F_hi32_a_00.keep KQ24 (ninS ne_a_b00 nin0)
  have F_lo64_a_24 := F_lo64_a_00.keep KQ24 (ninS ne_a_b00 nin0)
  have E_a_24 := E_a_00.keep KQ24
  have K0_24 := K0_00.trans KQ24 (allS in00 all0)
  have Z0_24 : n0 ≤ h24.size := Nat.le_trans Z0_00 KQ24.1
  have A00_24 := A00.keep KQ24
  have N24 := Fr.app N0 NQ24
  show own_Ends p e below s ({ frames := 3, cells := 1, slots := 4, locals := 48 } : Room).cells ({ frames := 3, cells := 1, slots := 4, locals := 48 } : Room).slots (Q3 Z a w1 w2 w3 w4 h0 n0) T24 (mkF m 27 #[.val (.ref a)] [(.ref b00)])
  refine own_retA X24 hx hlk hret rfl rfl (hb hby d3_27) (by decide) (by decide) ?_
  rw [e24]
  exact ⟨_, _, rfl, f15, N24, K0_24, A00_24, F_sign_b00_24⟩
theorem pd0_0 : parseMethodDescriptor "(IIIJ)V" = some ⟨[.int, .int, .int, .long], none⟩ := by decide +kernel
theorem pd0_1 : parseMethodDescriptor "()Z" = some ⟨[], some .boolean⟩ := by decide +kernel
theorem pd0_2 : parseMethodDescriptor "()Lcom/example/dispatchwire/dispatchwire/automation/Decimal;" = some ⟨[], some (.object "com/example/dispatchwire/dispatchwire/automation/Decimal")⟩ := by decide +kernel
theorem pf0 : plainFor (⟨"com/example/dispatchwire/dispatchwire/automation/DecimalNegativePinLaw", "law", "(IIIJ)Z"⟩ : MethodName) = true := by decide +kernel
theorem ef0 (m : MethodId) (q1 : Int32) (q2 : Int32) (q3 : Int32) (q4 : Int64) : entryFrame m #[(.int q1), (.int q2), (.int q3), (.long q4)] maxLocals = (mkF m 0 #[.val (.int q1), .val (.int q2), .val (.int q3), .val (.long q4), .second, .unset, .unset, .unset, .unset, .unset, .unset] []) := by first | rfl | (simp [entryFrame, mkF, argsToLocals, Value.category, maxLocals]; done)
def Q0 (Z : State) (q1 : Int32) (q2 : Int32) (q3 : Int32) (q4 : Int64) (h0 : Heap) (n0 : Nat) (v : Option Value) (h : Heap) (L : List Loc) : Prop := v = some (.int 1) ∧ Fr n0 L
set_option maxRecDepth 65536 in
set_option maxHeartbeats 40000000 in
theorem rm0 (l : Launch) (Z : State) (a0 : Array Value) (hw : ∀ d ∈ tables_1, d.before a0 Z = true) (ws : List Jvm.Cond) (q1 : Int32) (q2 : Int32) (q3 : Int32) (q4 : Int64) (h0 : Heap) (n0 : Nat) (Z0 : n0 ≤ h0.size) :
    MetFree l x (head1 (Jvm.Cond.code x code maxLocals ret :: ws) room_1) (fun aa U => aa = #[(.int q1), (.int q2), (.int q3), (.long q4)] ∧ Z.Warmed39 U.vm ∧ U.heap = h0) (fun _ _ _ _ _ => True) (fun _ U o U' => ∃ v L, o = .returned v ∧ Q0 Z q1 q2 q3 q4 h0 n0 v U'.heap L ∧ FrameEnd U o U' L room_1.cells room_1.slots) := by
  refine own_met pf0 ?_
  intro p e s m below meth c T0 hx hby hml hown hret hlk hnm hZ X0 e0
  have N0 := Fr.nil n0
  have r_q1 := rng32 q1
  have r_q2 := rng32 q2
  have r_q3 := rng32 q3
  have r_q4 := rng64 q4
  rw [ef0]
  refine own_go (mkF m 1 #[.val (.int q1), .val (.int q2), .val (.int q3), .val (.long q4), .second, .unset, .unset, .unset, .unset, .unset, .unset] [(.int q1)]) (fun t k => XS.iloadN X0.here hx rfl (hb hby at_0) rfl k) ?_
  refine own_go (mkF m 3 #[.val (.int q1), .val (.int q2), .val (.int q3), .val (.long q4), .second, .unset, .unset, .unset, .unset, .unset, .unset] [(.int (2147483647 : Int32)), (.int q1)]) (fun t k => X0.ldcInt hx hown (mvT hZ (hw _ (List.mem_of_getElem? (i := 0) rfl))) (g := (mkF m 1 #[.val (.int q1), .val (.int q2), .val (.int q3), .val (.long q4), .second, .unset, .unset, .unset, .unset, .unset, .unset] [(.int q1)])) rfl (hb hby at_1) _ k) ?_
  refine own_go (mkF m 4 #[.val (.int q1), .val (.int q2), .val (.int q3), .val (.long q4), .second, .unset, .unset, .unset, .unset, .unset, .unset] [(.int (q1 &&& (2147483647 : Int32)))]) (fun t k => XS.iand X0.here hx rfl (hb hby at_3) rfl k) ?_
  generalize hv3 : (q1 &&& (2147483647 : Int32)) = v3
  have f3 : v3.toInt = q1.toInt % 2147483648 := by rw [← hv3]; exact c_mask q1 (2147483647 : Int32) 31 (by decide) (by decide)
  have r3 := rng32 v3
  refine own_go (mkF m 6 #[.val (.int q1), .val (.int q2), .val (.int q3), .val (.long q4), .second, .unset, .unset, .unset, .unset, .unset, .unset] [(.int (29 : Int32)), (.int v3)]) (fun t k => XS.bipush X0.here hx rfl (hb hby at_4) k) ?_
  refine own_go (mkF m 7 #[.val (.int q1), .val (.int q2), .val (.int q3), .val (.long q4), .second, .unset, .unset, .unset, .unset, .unset, .unset] [(.int (v3 % (29 : Int32)))]) (fun t k => Jvm.RoadKit.iremM X0 hx rfl (hb hby at_6) rfl (by decide) k) ?_
  generalize hv6 : (v3 % (29 : Int32)) = v6
  have f6 : (0 ≤ v3.toInt → v6.toInt = v3.toInt % 29) ∧ (v3.toInt < 0 → v6.toInt = -((-v3.toInt) % 29)) := by rw [← hv6]; exact c_irem v3 (29 : Int32) 29 (by decide)
  have r6 := rng32 v6
  refine own_go (mkF m 9 #[.val (.int q1), .val (.int q2), .val (.int q3), .val (.long q4), .second, .val (.int v6), .unset, .unset, .unset, .unset, .unset] []) (fun t k => XS.istore X0.here hx rfl (hb hby at_7) rfl (l' := #[.val (.int q1), .val (.int q2), .val (.int q3), .val (.long q4), .second, .val (.int v6), .unset, .unset, .unset, .unset, .unset]) rfl k) ?_
  refine own_go (mkF m 10 #[.val (.int q1), .val (.int q2), .val (.int q3), .val (.long q4), .second, .val (.int v6), .unset, .unset, .unset, .unset, .unset] [(.int q2)]) (fun t k => XS.iloadN X0.here hx rfl (hb hby at_9) rfl k) ?_
  refine own_go (mkF m 11 #[.val (.int q1), .val (.int q2), .val (.int q3), .val (.long q4), .second, .val (.int v6), .unset, .unset, .unset, .unset, .unset] [(.int (1 : Int32)), (.int q2)]) (fun t k => XS.iconst X0.here hx rfl (hb hby at_10) k) ?_
  refine own_go (mkF m 12 #[.val (.int q1), .val (.int q2), .val (.int q3), .val (.long q4), .second, .val (.int v6), .unset, .unset, .unset, .unset, .unset] [(.int (q2 &&& (1 : Int32)))]) (fun t k => XS.iand X0.here hx rfl (hb hby at_11) rfl k) ?_
  generalize hv11 : (q2 &&& (1 : Int32)) = v11
  have f11 : v11.toInt = q2.toInt % 2 := by rw [← hv11]; exact c_mask q2 (1 : Int32) 1 (by decide) (by decide)
  have r11 := rng32 v11
  by_cases c12 : v11.toInt = 0
  · skip
    refine own_go (mkF m 19 #[.val (.int q1), .val (.int q2), .val (.int q3), .val (.long q4), .second, .val (.int v6), .unset, .unset, .unset, .unset, .unset] []) (fun t k => XS.ifYes X0.here hx rfl (pc0 := 12) (pc' := 19) rfl (hb hby at_12) rfl (own_zT (cd := .eq) c12) (by decide) (by decide) k) ?_
    refine own_go (mkF m 20 #[.val (.int q1), .val (.int q2), .val (.int q3), .val (.long q4), .second, .val (.int v6), .unset, .unset, .unset, .unset, .unset] [(.int (0 : Int32))]) (fun t k => XS.iconst X0.here hx rfl (hb hby at_19) k) ?_
    refine own_go (mkF m 22 #[.val (.int q1), .val (.int q2), .val (.int q3), .val (.long q4), .second, .val (.int v6), .val (.int (0 : Int32)), .unset, .unset, .unset, .unset] []) (fun t k => XS.istore X0.here hx rfl (hb hby at_20) rfl (l' := #[.val (.int q1), .val (.int q2), .val (.int q3), .val (.long q4), .second, .val (.int v6), .val (.int (0 : Int32)), .unset, .unset, .unset, .unset]) rfl k) ?_
    refine own_go (mkF m 24 #[.val (.int q1), .val (.int q2), .val (.int q3), .val (.long q4), .second, .val (.int v6), .val (.int (0 : Int32)), .unset, .unset, .unset, .unset] [(.int (0 : Int32))]) (fun t k => XS.iload X0.here hx rfl (hb hby at_22) rfl k) ?_
    refine own_go (mkF m 33 #[.val (.int q1), .val (.int q2), .val (.int q3), .val (.long q4), .second, .val (.int v6), .val (.int (0 : Int32)), .unset, .unset, .unset, .unset] []) (fun t k => XS.ifYes X0.here hx rfl (pc0 := 24) (pc' := 33) rfl (hb hby at_24) rfl (by decide) (by decide) (by decide) k) ?_
    refine own_go (mkF m 34 #[.val (.int q1), .val (.int q2), .val (.int q3), .val (.long q4), .second, .val (.int v6), .val (.int (0 : Int32)), .unset, .unset, .unset, .unset] [(.int (0 : Int32))]) (fun t k => XS.iconst X0.here hx rfl (hb hby at_33) k) ?_
    refine own_go (mkF m 36 #[.val (.int q1), .val (.int q2), .val (.int q3), .val (.long q4), .second, .val (.int v6), .val (.int (0 : Int32)), .val (.int (0 : Int32)), .unset, .unset, .unset] []) (fun t k => XS.istore X0.here hx rfl (hb hby at_34) rfl (l' := #[.val (.int q1), .val (.int q2), .val (.int q3), .val (.long q4), .second, .val (.int v6), .val (.int (0 : Int32)), .val (.int (0 : Int32)), .unset, .unset, .unset]) rfl k) ?_
    obtain ⟨T36, h36, X36, e36, E36, A36, D36, -, st36⟩ := newO X0 hx hZ hown (hw _ (List.mem_of_getElem? (i := 1) rfl)) (hw _ (List.mem_of_getElem? (i := 2) rfl)) (hw _ (List.mem_of_getElem? (i := 3) rfl)) e0 (g := (mkF m 36 #[.val (.int q1), .val (.int q2), .val (.int q3), .val (.long q4), .second, .val (.int v6), .val (.int (0 : Int32)), .val (.int (0 : Int32)), .unset, .unset, .unset] [])) rfl (hb hby at_36) (by decide) (by decide)
    obtain ⟨b36, g36⟩ : ∃ z, z = h0.size := ⟨_, rfl⟩
    rw [← g36] at A36 D36 st36
    have gb36 : n0 ≤ b36 := Nat.le_trans Z0 (Nat.le_of_eq g36.symm)
    have Z0_36 : n0 ≤ h36.size := Nat.le_trans Z0 E36.1
    have F_scale_b36 : Fld Z h36 b36 "com/example/dispatchwire/dispatchwire/automation/Decimal" "scale" "I" (.int (0 : Int32)) := D36 (Or.inr (hw _ (List.mem_of_getElem? (i := 16) rfl))) (ty := .int) (by decide)
    have F_sign_b36 : Fld Z h36 b36 "com/example/dispatchwire/dispatchwire/automation/Decimal" "sign" "I" (.int (0 : Int32)) := D36 (Or.inr (hw _ (List.mem_of_getElem? (i := 18) rfl))) (ty := .int) (by decide)
    have F_hi32_b36 : Fld Z h36 b36 "com/example/dispatchwire/dispatchwire/automation/Decimal" "hi32" "I" (.int (0 : Int32)) := D36 (Or.inr (hw _ (List.mem_of_getElem? (i := 20) rfl))) (ty := .int) (by decide)
    have F_lo64_b36 : Fld Z h36 b36 "com/example/dispatchwire/dispatchwire/automation/Decimal" "lo64" "J" (.long (0 : Int64)) := D36 (Or.inr (hw _ (List.mem_of_getElem? (i := 22) rfl))) (ty := .long) (by decide)
    refine own_go (T' := T36) (mkF m 39 #[.val (.int q1), .val (.int q2), .val (.int q3), .val (.long q4), .second, .val (.int v6), .val (.int (0 : Int32)), .val (.int (0 : Int32)), .unset, .unset, .unset] [(.ref b36)]) st36 ?_
    refine own_go (mkF m 40 #[.val (.int q1), .val (.int q2), .val (.int q3), .val (.long q4), .second, .val (.int v6), .val (.int (0 : Int32)), .val (.int (0 : Int32)), .unset, .unset, .unset] [(.ref b36), (.ref b36)]) (fun t k => XS.dup X36.here hx rfl (hb hby at_39) rfl rfl k) ?_
    refine own_go (mkF m 42 #[.val (.int q1), .val (.int q2), .val (.int q3), .val (.long q4), .second, .val (.int v6), .val (.int (0 : Int32)), .val (.int (0 : Int32)), .unset, .unset, .unset] [(.int v6), (.ref b36), (.ref b36)]) (fun t k => XS.iload X36.here hx rfl (hb hby at_40) rfl k) ?_
    refine own_go (mkF m 44 #[.val (.int q1), .val (.int q2), .val (.int q3), .val (.long q4), .second, .val (.int v6), .val (.int (0 : Int32)), .val (.int (0 : Int32)), .unset, .unset, .unset] [(.int (0 : Int32)), (.int v6), (.ref b36), (.ref b36)]) (fun t k => XS.iload X36.here hx rfl (hb hby at_42) rfl k) ?_
    refine own_go (mkF m 45 #[.val (.int q1), .val (.int q2), .val (.int q3), .val (.long q4), .second, .val (.int v6), .val (.int (0 : Int32)), .val (.int (0 : Int32)), .unset, .unset, .unset] [(.int q3), (.int (0 : Int32)), (.int v6), (.ref b36), (.ref b36)]) (fun t k => XS.iloadN X36.here hx rfl (hb hby at_44) rfl k) ?_
    refine own_go (mkF m 46 #[.val (.int q1), .val (.int q2), .val (.int q3), .val (.long q4), .second, .val (.int v6), .val (.int (0 : Int32)), .val (.int (0 : Int32)), .unset, .unset, .unset] [(.long q4), (.int q3), (.int (0 : Int32)), (.int v6), (.ref b36), (.ref b36)]) (fun t k => XS.lloadN X36.here hx rfl (hb hby at_45) rfl k) ?_
    have lt46_1 : (0 : Int32).toInt = 0 := rfl
    refine own_callI X36 hx hZ (y := (⟨"com/example/dispatchwire/dispatchwire/automation/Decimal", "<init>", "(IIIJ)V"⟩ : MethodName)) hown rfl (hw _ (List.mem_of_getElem? (i := 4) rfl)) (hw _ (List.mem_of_getElem? (i := 5) rfl)) (hw _ (List.mem_of_getElem? (i := 3) rfl)) (hw _ (List.mem_of_getElem? (i := 6) rfl)) (by decide) e36 (rm1 l Z a0 hw [] b36 v6 (0 : Int32) q3 q4 h36 n0 Z0_36 A36 F_scale_b36 F_sign_b36 F_hi32_b36 F_lo64_b36 gb36 (by omega)) 1 (by decide) (by decide) (by decide) (by decide) (g := (mkF m 46 #[.val (.int q1), .val (.int q2), .val (.int q3), .val (.long q4), .second, .val (.int v6), .val (.int (0 : Int32)), .val (.int (0 : Int32)), .unset, .unset, .unset] [(.long q4), (.int q3), (.int (0 : Int32)), (.int v6), (.ref b36), (.ref b36)])) rfl (by rw [hml]; rfl) b36 [(.int v6), (.int (0 : Int32)), (.int q3), (.long q4)] [(.ref b36)] (lenOf pd0_0 rfl) rfl rfl (by show 2 * 0 + _ ≤ _; exact Nat.le_of_eq rfl) (hb hby at_46) ?_
    intro rv46 T46 h46 L46 X46 e46 hQ46
    obtain ⟨rfl, NQ46, KQ46, EQ46, F_scale_b36_46, F_sign_b36_46, F_hi32_b36_46, F_lo64_b36_46⟩ := hQ46
    have Z0_46 : n0 ≤ h46.size := Nat.le_trans Z0_36 KQ46.1
    have A36_46 := A36.keep KQ46
    have N46 := Fr.app N0 NQ46
    show own_Ends p e below s room_1.cells room_1.slots (Q0 Z q1 q2 q3 q4 h0 n0) T46 (mkF m 49 #[.val (.int q1), .val (.int q2), .val (.int q3), .val (.long q4), .second, .val (.int v6), .val (.int (0 : Int32)), .val (.int (0 : Int32)), .unset, .unset, .unset] [(.ref b36)])
    refine own_go (mkF m 51 #[.val (.int q1), .val (.int q2), .val (.int q3), .val (.long q4), .second, .val (.int v6), .val (.int (0 : Int32)), .val (.int (0 : Int32)), .val (.ref b36), .unset, .unset] []) (fun t k => XS.astore X46.here hx rfl (hb hby at_49) rfl rfl (l' := #[.val (.int q1), .val (.int q2), .val (.int q3), .val (.long q4), .second, .val (.int v6), .val (.int (0 : Int32)), .val (.int (0 : Int32)), .val (.ref b36), .unset, .unset]) rfl k) ?_
    refine own_go (mkF m 53 #[.val (.int q1), .val (.int q2), .val (.int q3), .val (.long q4), .second, .val (.int v6), .val (.int (0 : Int32)), .val (.int (0 : Int32)), .val (.ref b36), .unset, .unset] [(.ref b36)]) (fun t k => XS.aload X46.here hx rfl (hb hby at_51) rfl rfl k) ?_
    refine own_callV X46 hx hZ (y := (⟨"com/example/dispatchwire/dispatchwire/automation/Decimal", "negative", "()Z"⟩ : MethodName)) hown (hw _ (List.mem_of_getElem? (i := 23) rfl)) (hw _ (List.mem_of_getElem? (i := 24) rfl)) (hw _ (List.mem_of_getElem? (i := 26) rfl)) (hw _ (List.mem_of_getElem? (i := 25) rfl)) (hw _ (List.mem_of_getElem? (i := 3) rfl)) (hw _ (List.mem_of_getElem? (i := 27) rfl)) (by decide) e46 b36 A36_46 (rm2 l Z a0 hw [] b36 (0 : Int32) h46 n0 Z0_46 F_sign_b36_46) 0 (by decide) (by decide) (by decide) (by decide) (g := (mkF m 53 #[.val (.int q1), .val (.int q2), .val (.int q3), .val (.long q4), .second, .val (.int v6), .val (.int (0 : Int32)), .val (.int (0 : Int32)), .val (.ref b36), .unset, .unset] [(.ref b36)])) rfl (by rw [hml]; rfl) [] [] (lenOf pd0_1 rfl) rfl rfl (by show 2 * 0 + _ ≤ _; exact Nat.le_of_eq rfl) (hb hby at_53) ?_
    intro rv53 T53 h53 L53 X53 e53 hQ53
    obtain ⟨⟨r53_, rfl, hr53⟩, NQ53, eq53⟩ := hQ53
    rw [eq53] at e53
    have rr53 := rng32 r53_
    have N53 := Fr.app N46 NQ53
    show own_Ends p e below s room_1.cells room_1.slots (Q0 Z q1 q2 q3 q4 h0 n0) T53 (mkF m 56 #[.val (.int q1), .val (.int q2), .val (.int q3), .val (.long q4), .second, .val (.int v6), .val (.int (0 : Int32)), .val (.int (0 : Int32)), .val (.ref b36), .unset, .unset] [(.int r53_)])
    refine own_go (mkF m 58 #[.val (.int q1), .val (.int q2), .val (.int q3), .val (.long q4), .second, .val (.int v6), .val (.int (0 : Int32)), .val (.int (0 : Int32)), .val (.ref b36), .val (.int r53_), .unset] []) (fun t k => XS.istore X53.here hx rfl (hb hby at_56) rfl (l' := #[.val (.int q1), .val (.int q2), .val (.int q3), .val (.long q4), .second, .val (.int v6), .val (.int (0 : Int32)), .val (.int (0 : Int32)), .val (.ref b36), .val (.int r53_), .unset]) rfl k) ?_
    refine own_go (mkF m 60 #[.val (.int q1), .val (.int q2), .val (.int q3), .val (.long q4), .second, .val (.int v6), .val (.int (0 : Int32)), .val (.int (0 : Int32)), .val (.ref b36), .val (.int r53_), .unset] [(.ref b36)]) (fun t k => XS.aload X53.here hx rfl (hb hby at_58) rfl rfl k) ?_
    refine own_callV X53 hx hZ (y := (⟨"com/example/dispatchwire/dispatchwire/automation/Decimal", "negate", "()Lcom/example/dispatchwire/dispatchwire/automation/Decimal;"⟩ : MethodName)) hown (hw _ (List.mem_of_getElem? (i := 28) rfl)) (hw _ (List.mem_of_getElem? (i := 29) rfl)) (hw _ (List.mem_of_getElem? (i := 31) rfl)) (hw _ (List.mem_of_getElem? (i := 30) rfl)) (hw _ (List.mem_of_getElem? (i := 3) rfl)) (hw _ (List.mem_of_getElem? (i := 32) rfl)) (by decide) e53 b36 A36_46 (rm3 l Z a0 hw [] b36 v6 (0 : Int32) q3 q4 h46 n0 Z0_46 A36_46 F_scale_b36_46 F_sign_b36_46 F_hi32_b36_46 F_lo64_b36_46 (by omega)) 0 (by decide) (by decide) (by decide) (by decide) (g := (mkF m 60 #[.val (.int q1), .val (.int q2), .val (.int q3), .val (.long q4), .second, .val (.int v6), .val (.int (0 : Int32)), .val (.int (0 : Int32)), .val (.ref b36), .val (.int r53_), .unset] [(.ref b36)])) rfl (by rw [hml]; rfl) [] [] (lenOf pd0_2 rfl) rfl rfl (by show 2 * 0 + _ ≤ _; exact Nat.le_of_eq rfl) (hb hby at_60) ?_
    intro rv60 T60 h60 L60 X60 e60 hQ60
    obtain ⟨bn60, sn60, rfl, hsn60, NQ60, KQ60, EQ60, FQ60⟩ := hQ60
    have Z0_60 : n0 ≤ h60.size := Nat.le_trans Z0_46 KQ60.1
    have A36_60 := A36_46.keep KQ60
    have F_scale_b36_60 := F_scale_b36_46.keep KQ60 nin0
    have F_sign_b36_60 := F_sign_b36_46.keep KQ60 nin0
    have F_hi32_b36_60 := F_hi32_b36_46.keep KQ60 nin0
    have F_lo64_b36_60 := F_lo64_b36_46.keep KQ60 nin0
    have N60 := Fr.app N53 NQ60
    show own_Ends p e below s room_1.cells room_1.slots (Q0 Z q1 q2 q3 q4 h0 n0) T60 (mkF m 63 #[.val (.int q1), .val (.int q2), .val (.int q3), .val (.long q4), .second, .val (.int v6), .val (.int (0 : Int32)), .val (.int (0 : Int32)), .val (.ref b36), .val (.int r53_), .unset] [(.ref bn60)])
    refine own_callV X60 hx hZ (y := (⟨"com/example/dispatchwire/dispatchwire/automation/Decimal", "negative", "()Z"⟩ : MethodName)) hown (hw _ (List.mem_of_getElem? (i := 23) rfl)) (hw _ (List.mem_of_getElem? (i := 24) rfl)) (hw _ (List.mem_of_getElem? (i := 26) rfl)) (hw _ (List.mem_of_getElem? (i := 25) rfl)) (hw _ (List.mem_of_getElem? (i := 3) rfl)) (hw _ (List.mem_of_getElem? (i := 27) rfl)) (by decide) e60 bn60 EQ60 (rm2 l Z a0 hw [] bn60 sn60 h60 n0 Z0_60 FQ60) 0 (by decide) (by decide) (by decide) (by decide) (g := (mkF m 63 #[.val (.int q1), .val (.int q2), .val (.int q3), .val (.long q4), .second, .val (.int v6), .val (.int (0 : Int32)), .val (.int (0 : Int32)), .val (.ref b36), .val (.int r53_), .unset] [(.ref bn60)])) rfl (by rw [hml]; rfl) [] [] (lenOf pd0_1 rfl) rfl rfl (by show 2 * 0 + _ ≤ _; exact Nat.le_of_eq rfl) (hb hby at_63) ?_
    intro rv63 T63 h63 L63 X63 e63 hQ63
    obtain ⟨⟨r63_, rfl, hr63⟩, NQ63, eq63⟩ := hQ63
    rw [eq63] at e63
    have rr63 := rng32 r63_
    have N63 := Fr.app N60 NQ63
    show own_Ends p e below s room_1.cells room_1.slots (Q0 Z q1 q2 q3 q4 h0 n0) T63 (mkF m 66 #[.val (.int q1), .val (.int q2), .val (.int q3), .val (.long q4), .second, .val (.int v6), .val (.int (0 : Int32)), .val (.int (0 : Int32)), .val (.ref b36), .val (.int r53_), .unset] [(.int r63_)])
    refine own_go (mkF m 68 #[.val (.int q1), .val (.int q2), .val (.int q3), .val (.long q4), .second, .val (.int v6), .val (.int (0 : Int32)), .val (.int (0 : Int32)), .val (.ref b36), .val (.int r53_), .val (.int r63_)] []) (fun t k => XS.istore X63.here hx rfl (hb hby at_66) rfl (l' := #[.val (.int q1), .val (.int q2), .val (.int q3), .val (.long q4), .second, .val (.int v6), .val (.int (0 : Int32)), .val (.int (0 : Int32)), .val (.ref b36), .val (.int r53_), .val (.int r63_)]) rfl k) ?_
    refine own_go (mkF m 70 #[.val (.int q1), .val (.int q2), .val (.int q3), .val (.long q4), .second, .val (.int v6), .val (.int (0 : Int32)), .val (.int (0 : Int32)), .val (.ref b36), .val (.int r53_), .val (.int r63_)] [(.int r53_)]) (fun t k => XS.iload X63.here hx rfl (hb hby at_68) rfl k) ?_
    refine own_go (mkF m 72 #[.val (.int q1), .val (.int q2), .val (.int q3), .val (.long q4), .second, .val (.int v6), .val (.int (0 : Int32)), .val (.int (0 : Int32)), .val (.ref b36), .val (.int r53_), .val (.int r63_)] [(.int (0 : Int32)), (.int r53_)]) (fun t k => XS.iload X63.here hx rfl (hb hby at_70) rfl k) ?_
    by_cases c72 : r53_.toInt = 0
    · skip
      refine own_go (mkF m 75 #[.val (.int q1), .val (.int q2), .val (.int q3), .val (.long q4), .second, .val (.int v6), .val (.int (0 : Int32)), .val (.int (0 : Int32)), .val (.ref b36), .val (.int r53_), .val (.int r63_)] []) (fun t k => XS.icmpNo X63.here hx rfl (hb hby at_72) rfl (own_icF (cd := .ne) (fun q => q c72)) k) ?_
      refine own_go (mkF m 77 #[.val (.int q1), .val (.int q2), .val (.int q3), .val (.long q4), .second, .val (.int v6), .val (.int (0 : Int32)), .val (.int (0 : Int32)), .val (.ref b36), .val (.int r53_), .val (.int r63_)] [(.int r63_)]) (fun t k => XS.iload X63.here hx rfl (hb hby at_75) rfl k) ?_
      refine own_go (mkF m 79 #[.val (.int q1), .val (.int q2), .val (.int q3), .val (.long q4), .second, .val (.int v6), .val (.int (0 : Int32)), .val (.int (0 : Int32)), .val (.ref b36), .val (.int r53_), .val (.int r63_)] [(.int (0 : Int32)), (.int r63_)]) (fun t k => XS.iload X63.here hx rfl (hb hby at_77) rfl k) ?_
      refine own_go (mkF m 82 #[.val (.int q1), .val (.int q2), .val (.int q3), .val (.long q4), .second, .val (.int v6), .val (.int (0 : Int32)), .val (.int (0 : Int32)), .val (.ref b36), .val (.int r53_), .val (.int r63_)] [(.int r63_)]) (fun t k => XS.ifNo X63.here hx rfl (hb hby at_79) rfl (by decide) k) ?_
      refine own_go (mkF m 83 #[.val (.int q1), .val (.int q2), .val (.int q3), .val (.long q4), .second, .val (.int v6), .val (.int (0 : Int32)), .val (.int (0 : Int32)), .val (.ref b36), .val (.int r53_), .val (.int r63_)] [(.int (1 : Int32)), (.int r63_)]) (fun t k => XS.iconst X63.here hx rfl (hb hby at_82) k) ?_
      refine own_go (mkF m 87 #[.val (.int q1), .val (.int q2), .val (.int q3), .val (.long q4), .second, .val (.int v6), .val (.int (0 : Int32)), .val (.int (0 : Int32)), .val (.ref b36), .val (.int r53_), .val (.int r63_)] [(.int (1 : Int32)), (.int r63_)]) (fun t k => XS.goto X63.here hx rfl (pc0 := 83) (pc' := 87) rfl (hb hby at_83) (by decide) (by decide) k) ?_
      by_cases c87 : r63_.toInt = 1
      · skip
        refine own_go (mkF m 90 #[.val (.int q1), .val (.int q2), .val (.int q3), .val (.long q4), .second, .val (.int v6), .val (.int (0 : Int32)), .val (.int (0 : Int32)), .val (.ref b36), .val (.int r53_), .val (.int r63_)] []) (fun t k => XS.icmpNo X63.here hx rfl (hb hby at_87) rfl (own_icF (cd := .ne) (fun q => q c87)) k) ?_
        refine own_go (mkF m 91 #[.val (.int q1), .val (.int q2), .val (.int q3), .val (.long q4), .second, .val (.int v6), .val (.int (0 : Int32)), .val (.int (0 : Int32)), .val (.ref b36), .val (.int r53_), .val (.int r63_)] [(.int (1 : Int32))]) (fun t k => XS.iconst X63.here hx rfl (hb hby at_90) k) ?_
        refine own_go (mkF m 95 #[.val (.int q1), .val (.int q2), .val (.int q3), .val (.long q4), .second, .val (.int v6), .val (.int (0 : Int32)), .val (.int (0 : Int32)), .val (.ref b36), .val (.int r53_), .val (.int r63_)] [(.int (1 : Int32))]) (fun t k => XS.goto X63.here hx rfl (pc0 := 91) (pc' := 95) rfl (hb hby at_91) (by decide) (by decide) k) ?_
        refine own_retI X63 hx hlk hret (by simp) rfl (hb hby at_95) (by decide) (by decide) ?_
        rw [e63]
        exact ⟨rfl, N63⟩
      · skip
        refine own_go (mkF m 94 #[.val (.int q1), .val (.int q2), .val (.int q3), .val (.long q4), .second, .val (.int v6), .val (.int (0 : Int32)), .val (.int (0 : Int32)), .val (.ref b36), .val (.int r53_), .val (.int r63_)] []) (fun t k => XS.icmpYes X63.here hx rfl (pc0 := 87) (pc' := 94) rfl (hb hby at_87) rfl (own_icT (cd := .ne) c87) (by decide) (by decide) k) ?_
        refine own_go (mkF m 95 #[.val (.int q1), .val (.int q2), .val (.int q3), .val (.long q4), .second, .val (.int v6), .val (.int (0 : Int32)), .val (.int (0 : Int32)), .val (.ref b36), .val (.int r53_), .val (.int r63_)] [(.int (0 : Int32))]) (fun t k => XS.iconst X63.here hx rfl (hb hby at_94) k) ?_
        refine own_retI X63 hx hlk hret (by simp) rfl (hb hby at_95) (by decide) (by decide) ?_
        rw [e63]
        exfalso
        omega
    · skip
      refine own_go (mkF m 94 #[.val (.int q1), .val (.int q2), .val (.int q3), .val (.long q4), .second, .val (.int v6), .val (.int (0 : Int32)), .val (.int (0 : Int32)), .val (.ref b36), .val (.int r53_), .val (.int r63_)] []) (fun t k => XS.icmpYes X63.here hx rfl (pc0 := 72) (pc' := 94) rfl (hb hby at_72) rfl (own_icT (cd := .ne) c72) (by decide) (by decide) k) ?_
      refine own_go (mkF m 95 #[.val (.int q1), .val (.int q2), .val (.int q3), .val (.long q4), .second, .val (.int v6), .val (.int (0 : Int32)), .val (.int (0 : Int32)), .val (.ref b36), .val (.int r53_), .val (.int r63_)] [(.int (0 : Int32))]) (fun t k => XS.iconst X63.here hx rfl (hb hby at_94) k) ?_
      refine own_retI X63 hx hlk hret (by simp) rfl (hb hby at_95) (by decide) (by decide) ?_
      rw [e63]
      exfalso
      omega
  · skip
    refine own_go (mkF m 15 #[.val (.int q1), .val (.int q2), .val (.int q3), .val (.long q4), .second, .val (.int v6), .unset, .unset, .unset, .unset, .unset] []) (fun t k => XS.ifNo X0.here hx rfl (hb hby at_12) rfl (own_zF (cd := .eq) c12) k) ?_
    refine own_go (mkF m 16 #[.val (.int q1), .val (.int q2), .val (.int q3), .val (.long q4), .second, .val (.int v6), .unset, .unset, .unset, .unset, .unset] [(.int (1 : Int32))]) (fun t k => XS.iconst X0.here hx rfl (hb hby at_15) k) ?_
    refine own_go (mkF m 20 #[.val (.int q1), .val (.int q2), .val (.int q3), .val (.long q4), .second, .val (.int v6), .unset, .unset, .unset, .unset, .unset] [(.int (1 : Int32))]) (fun t k => XS.goto X0.here hx rfl (pc0 := 16) (pc' := 20) rfl (hb hby at_16) (by decide) (by decide) k) ?_
    refine own_go (mkF m 22 #[.val (.int q1), .val (.int q2), .val (.int q3), .val (.long q4), .second, .val (.int v6), .val (.int (1 : Int32)), .unset, .unset, .unset, .unset] []) (fun t k => XS.istore X0.here hx rfl (hb hby at_20) rfl (l' := #[.val (.int q1), .val (.int q2), .val (.int q3), .val (.long q4), .second, .val (.int v6), .val (.int (1 : Int32)), .unset, .unset, .unset, .unset]) rfl k) ?_
    refine own_go (mkF m 24 #[.val (.int q1), .val (.int q2), .val (.int q3), .val (.long q4), .second, .val (.int v6), .val (.int (1 : Int32)), .unset, .unset, .unset, .unset] [(.int (1 : Int32))]) (fun t k => XS.iload X0.here hx rfl (hb hby at_22) rfl k) ?_
    refine own_go (mkF m 27 #[.val (.int q1), .val (.int q2), .val (.int q3), .val (.long q4), .second, .val (.int v6), .val (.int (1 : Int32)), .unset, .unset, .unset, .unset] []) (fun t k => XS.ifNo X0.here hx rfl (hb hby at_24) rfl (by decide) k) ?_
    refine own_go (mkF m 30 #[.val (.int q1), .val (.int q2), .val (.int q3), .val (.long q4), .second, .val (.int v6), .val (.int (1 : Int32)), .unset, .unset, .unset, .unset] [(.int (128 : Int32))]) (fun t k => XS.sipush X0.here hx rfl (hb hby at_27) k) ?_
    refine own_go (mkF m 34 #[.val (.int q1), .val (.int q2), .val (.int q3), .val (.long q4), .second, .val (.int v6), .val (.int (1 : Int32)), .unset, .unset, .unset, .unset] [(.int (128 : Int32))]) (fun t k => XS.goto X0.here hx rfl (pc0 := 30) (pc' := 34) rfl (hb hby at_30) (by decide) (by decide) k) ?_
    refine own_go (mkF m 36 #[.val (.int q1), .val (.int q2), .val (.int q3), .val (.long q4), .second, .val (.int v6), .val (.int (1 : Int32)), .val (.int (128 : Int32)), .unset, .unset, .unset] []) (fun t k => XS.istore X0.here hx rfl (hb hby at_34) rfl (l' := #[.val (.int q1), .val (.int q2), .val (.int q3), .val (.long q4), .second, .val (.int v6), .val (.int (1 : Int32)), .val (.int (128 : Int32)), .unset, .unset, .unset]) rfl k) ?_
    obtain ⟨T36, h36, X36, e36, E36, A36, D36, -, st36⟩ := newO X0 hx hZ hown (hw _ (List.mem_of_getElem? (i := 1) rfl)) (hw _ (List.mem_of_getElem? (i := 2) rfl)) (hw _ (List.mem_of_getElem? (i := 3) rfl)) e0 (g := (mkF m 36 #[.val (.int q1), .val (.int q2), .val (.int q3), .val (.long q4), .second, .val (.int v6), .val (.int (1 : Int32)), .val (.int (128 : Int32)), .unset, .unset, .unset] [])) rfl (hb hby at_36) (by decide) (by decide)
    obtain ⟨b36, g36⟩ : ∃ z, z = h0.size := ⟨_, rfl⟩
    rw [← g36] at A36 D36 st36
    have gb36 : n0 ≤ b36 := Nat.le_trans Z0 (Nat.le_of_eq g36.symm)
    have Z0_36 : n0 ≤ h36.size := Nat.le_trans Z0 E36.1
    have F_scale_b36 : Fld Z h36 b36 "com/example/dispatchwire/dispatchwire/automation/Decimal" "scale" "I" (.int (0 : Int32)) := D36 (Or.inr (hw _ (List.mem_of_getElem? (i := 16) rfl))) (ty := .int) (by decide)
    have F_sign_b36 : Fld Z h36 b36 "com/example/dispatchwire/dispatchwire/automation/Decimal" "sign" "I" (.int (0 : Int32)) := D36 (Or.inr (hw _ (List.mem_of_getElem? (i := 18) rfl))) (ty := .int) (by decide)
    have F_hi32_b36 : Fld Z h36 b36 "com/example/dispatchwire/dispatchwire/automation/Decimal" "hi32" "I" (.int (0 : Int32)) := D36 (Or.inr (hw _ (List.mem_of_getElem? (i := 20) rfl))) (ty := .int) (by decide)
    have F_lo64_b36 : Fld Z h36 b36 "com/example/dispatchwire/dispatchwire/automation/Decimal" "lo64" "J" (.long (0 : Int64)) := D36 (Or.inr (hw _ (List.mem_of_getElem? (i := 22) rfl))) (ty := .long) (by decide)
    refine own_go (T' := T36) (mkF m 39 #[.val (.int q1), .val (.int q2), .val (.int q3), .val (.long q4), .second, .val (.int v6), .val (.int (1 : Int32)), .val (.int (128 : Int32)), .unset, .unset, .unset] [(.ref b36)]) st36 ?_
    refine own_go (mkF m 40 #[.val (.int q1), .val (.int q2), .val (.int q3), .val (.long q4), .second, .val (.int v6), .val (.int (1 : Int32)), .val (.int (128 : Int32)), .unset, .unset, .unset] [(.ref b36), (.ref b36)]) (fun t k => XS.dup X36.here hx rfl (hb hby at_39) rfl rfl k) ?_
    refine own_go (mkF m 42 #[.val (.int q1), .val (.int q2), .val (.int q3), .val (.long q4), .second, .val (.int v6), .val (.int (1 : Int32)), .val (.int (128 : Int32)), .unset, .unset, .unset] [(.int v6), (.ref b36), (.ref b36)]) (fun t k => XS.iload X36.here hx rfl (hb hby at_40) rfl k) ?_
    refine own_go (mkF m 44 #[.val (.int q1), .val (.int q2), .val (.int q3), .val (.long q4), .second, .val (.int v6), .val (.int (1 : Int32)), .val (.int (128 : Int32)), .unset, .unset, .unset] [(.int (128 : Int32)), (.int v6), (.ref b36), (.ref b36)]) (fun t k => XS.iload X36.here hx rfl (hb hby at_42) rfl k) ?_
    refine own_go (mkF m 45 #[.val (.int q1), .val (.int q2), .val (.int q3), .val (.long q4), .second, .val (.int v6), .val (.int (1 : Int32)), .val (.int (128 : Int32)), .unset, .unset, .unset] [(.int q3), (.int (128 : Int32)), (.int v6), (.ref b36), (.ref b36)]) (fun t k => XS.iloadN X36.here hx rfl (hb hby at_44) rfl k) ?_
    refine own_go (mkF m 46 #[.val (.int q1), .val (.int q2), .val (.int q3), .val (.long q4), .second, .val (.int v6), .val (.int (1 : Int32)), .val (.int (128 : Int32)), .unset, .unset, .unset] [(.long q4), (.int q3), (.int (128 : Int32)), (.int v6), (.ref b36), (.ref b36)]) (fun t k => XS.lloadN X36.here hx rfl (hb hby at_45) rfl k) ?_
    have lt46_1 : (128 : Int32).toInt = 128 := rfl
    refine own_callI X36 hx hZ (y := (⟨"com/example/dispatchwire/dispatchwire/automation/Decimal", "<init>", "(IIIJ)V"⟩ : MethodName)) hown rfl (hw _ (List.mem_of_getElem? (i := 4) rfl)) (hw _ (List.mem_of_getElem? (i := 5) rfl)) (hw _ (List.mem_of_getElem? (i := 3) rfl)) (hw _ (List.mem_of_getElem? (i := 6) rfl)) (by decide) e36 (rm1 l Z a0 hw [] b36 v6 (128 : Int32) q3 q4 h36 n0 Z0_36 A36 F_scale_b36 F_sign_b36 F_hi32_b36 F_lo64_b36 gb36 (by omega)) 1 (by decide) (by decide) (by decide) (by decide) (g := (mkF m 46 #[.val (.int q1), .val (.int q2), .val (.int q3), .val (.long q4), .second, .val (.int v6), .val (.int (1 : Int32)), .val (.int (128 : Int32)), .unset, .unset, .unset] [(.long q4), (.int q3), (.int (128 : Int32)), (.int v6), (.ref b36), (.ref b36)])) rfl (by rw [hml]; rfl) b36 [(.int v6), (.int (128 : Int32)), (.int q3), (.long q4)] [(.ref b36)] (lenOf pd0_0 rfl) rfl rfl (by show 2 * 0 + _ ≤ _; exact Nat.le_of_eq rfl) (hb hby at_46) ?_
    intro rv46 T46 h46 L46 X46 e46 hQ46
    obtain ⟨rfl, NQ46, KQ46, EQ46, F_scale_b36_46, F_sign_b36_46, F_hi32_b36_46, F_lo64_b36_46⟩ := hQ46
    have Z0_46 : n0 ≤ h46.size := Nat.le_trans Z0_36 KQ46.1
    have A36_46 := A36.keep KQ46
    have N46 := Fr.app N0 NQ46
    show own_Ends p e below s room_1.cells room_1.slots (Q0 Z q1 q2 q3 q4 h0 n0) T46 (mkF m 49 #[.val (.int q1), .val (.int q2), .val (.int q3), .val (.long q4), .second, .val (.int v6), .val (.int (1 : Int32)), .val (.int (128 : Int32)), .unset, .unset, .unset] [(.ref b36)])
    refine own_go (mkF m 51 #[.val (.int q1), .val (.int q2), .val (.int q3), .val (.long q4), .second, .val (.int v6), .val (.int (1 : Int32)), .val (.int (128 : Int32)), .val (.ref b36), .unset, .unset] []) (fun t k => XS.astore X46.here hx rfl (hb hby at_49) rfl rfl (l' := #[.val (.int q1), .val (.int q2), .val (.int q3), .val (.long q4), .second, .val (.int v6), .val (.int (1 : Int32)), .val (.int (128 : Int32)), .val (.ref b36), .unset, .unset]) rfl k) ?_
    refine own_go (mkF m 53 #[.val (.int q1), .val (.int q2), .val (.int q3), .val (.long q4), .second, .val (.int v6), .val (.int (1 : Int32)), .val (.int (128 : Int32)), .val (.ref b36), .unset, .unset] [(.ref b36)]) (fun t k => XS.aload X46.here hx rfl (hb hby at_51) rfl rfl k) ?_
    refine own_callV X46 hx hZ (y := (⟨"com/example/dispatchwire/dispatchwire/automation/Decimal", "negative", "()Z"⟩ : MethodName)) hown (hw _ (List.mem_of_getElem? (i := 23) rfl)) (hw _ (List.mem_of_getElem? (i := 24) rfl)) (hw _ (List.mem_of_getElem? (i := 26) rfl)) (hw _ (List.mem_of_getElem? (i := 25) rfl)) (hw _ (List.mem_of_getElem? (i := 3) rfl)) (hw _ (List.mem_of_getElem? (i := 27) rfl)) (by decide) e46 b36 A36_46 (rm2 l Z a0 hw [] b36 (128 : Int32) h46 n0 Z0_46 F_sign_b36_46) 0 (by decide) (by decide) (by decide) (by decide) (g := (mkF m 53 #[.val (.int q1), .val (.int q2), .val (.int q3), .val (.long q4), .second, .val (.int v6), .val (.int (1 : Int32)), .val (.int (128 : Int32)), .val (.ref b36), .unset, .unset] [(.ref b36)])) rfl (by rw [hml]; rfl) [] [] (lenOf pd0_1 rfl) rfl rfl (by show 2 * 0 + _ ≤ _; exact Nat.le_of_eq rfl) (hb hby at_53) ?_
    intro rv53 T53 h53 L53 X53 e53 hQ53
    obtain ⟨⟨r53_, rfl, hr53⟩, NQ53, eq53⟩ := hQ53
    rw [eq53] at e53
    have rr53 := rng32 r53_
    have N53 := Fr.app N46 NQ53
    show own_Ends p e below s room_1.cells room_1.slots (Q0 Z q1 q2 q3 q4 h0 n0) T53 (mkF m 56 #[.val (.int q1), .val (.int q2), .val (.int q3), .val (.long q4), .second, .val (.int v6), .val (.int (1 : Int32)), .val (.int (128 : Int32)), .val (.ref b36), .unset, .unset] [(.int r53_)])
    refine own_go (mkF m 58 #[.val (.int q1), .val (.int q2), .val (.int q3), .val (.long q4), .second, .val (.int v6), .val (.int (1 : Int32)), .val (.int (128 : Int32)), .val (.ref b36), .val (.int r53_), .unset] []) (fun t k => XS.istore X53.here hx rfl (hb hby at_56) rfl (l' := #[.val (.int q1), .val (.int q2), .val (.int q3), .val (.long q4), .second, .val (.int v6), .val (.int (1 : Int32)), .val (.int (128 : Int32)), .val (.ref b36), .val (.int r53_), .unset]) rfl k) ?_
    refine own_go (mkF m 60 #[.val (.int q1), .val (.int q2), .val (.int q3), .val (.long q4), .second, .val (.int v6), .val (.int (1 : Int32)), .val (.int (128 : Int32)), .val (.ref b36), .val (.int r53_), .unset] [(.ref b36)]) (fun t k => XS.aload X53.here hx rfl (hb hby at_58) rfl rfl k) ?_
    refine own_callV X53 hx hZ (y := (⟨"com/example/dispatchwire/dispatchwire/automation/Decimal", "negate", "()Lcom/example/dispatchwire/dispatchwire/automation/Decimal;"⟩ : MethodName)) hown (hw _ (List.mem_of_getElem? (i := 28) rfl)) (hw _ (List.mem_of_getElem? (i := 29) rfl)) (hw _ (List.mem_of_getElem? (i := 31) rfl)) (hw _ (List.mem_of_getElem? (i := 30) rfl)) (hw _ (List.mem_of_getElem? (i := 3) rfl)) (hw _ (List.mem_of_getElem? (i := 32) rfl)) (by decide) e53 b36 A36_46 (rm3 l Z a0 hw [] b36 v6 (128 : Int32) q3 q4 h46 n0 Z0_46 A36_46 F_scale_b36_46 F_sign_b36_46 F_hi32_b36_46 F_lo64_b36_46 (by omega)) 0 (by decide) (by decide) (by decide) (by decide) (g := (mkF m 60 #[.val (.int q1), .val (.int q2), .val (.int q3), .val (.long q4), .second, .val (.int v6), .val (.int (1 : Int32)), .val (.int (128 : Int32)), .val (.ref b36), .val (.int r53_), .unset] [(.ref b36)])) rfl (by rw [hml]; rfl) [] [] (lenOf pd0_2 rfl) rfl rfl (by show 2 * 0 + _ ≤ _; exact Nat.le_of_eq rfl) (hb hby at_60) ?_
    intro rv60 T60 h60 L60 X60 e60 hQ60
    obtain ⟨bn60, sn60, rfl, hsn60, NQ60, KQ60, EQ60, FQ60⟩ := hQ60
    have Z0_60 : n0 ≤ h60.size := Nat.le_trans Z0_46 KQ60.1
    have A36_60 := A36_46.keep KQ60
    have F_scale_b36_60 := F_scale_b36_46.keep KQ60 nin0
    have F_sign_b36_60 := F_sign_b36_46.keep KQ60 nin0
    have F_hi32_b36_60 := F_hi32_b36_46.keep KQ60 nin0
    have F_lo64_b36_60 := F_lo64_b36_46.keep KQ60 nin0
    have N60 := Fr.app N53 NQ60
    show own_Ends p e below s room_1.cells room_1.slots (Q0 Z q1 q2 q3 q4 h0 n0) T60 (mkF m 63 #[.val (.int q1), .val (.int q2), .val (.int q3), .val (.long q4), .second, .val (.int v6), .val (.int (1 : Int32)), .val (.int (128 : Int32)), .val (.ref b36), .val (.int r53_), .unset] [(.ref bn60)])
    refine own_callV X60 hx hZ (y := (⟨"com/example/dispatchwire/dispatchwire/automation/Decimal", "negative", "()Z"⟩ : MethodName)) hown (hw _ (List.mem_of_getElem? (i := 23) rfl)) (hw _ (List.mem_of_getElem? (i := 24) rfl)) (hw _ (List.mem_of_getElem? (i := 26) rfl)) (hw _ (List.mem_of_getElem? (i := 25) rfl)) (hw _ (List.mem_of_getElem? (i := 3) rfl)) (hw _ (List.mem_of_getElem? (i := 27) rfl)) (by decide) e60 bn60 EQ60 (rm2 l Z a0 hw [] bn60 sn60 h60 n0 Z0_60 FQ60) 0 (by decide) (by decide) (by decide) (by decide) (g := (mkF m 63 #[.val (.int q1), .val (.int q2), .val (.int q3), .val (.long q4), .second, .val (.int v6), .val (.int (1 : Int32)), .val (.int (128 : Int32)), .val (.ref b36), .val (.int r53_), .unset] [(.ref bn60)])) rfl (by rw [hml]; rfl) [] [] (lenOf pd0_1 rfl) rfl rfl (by show 2 * 0 + _ ≤ _; exact Nat.le_of_eq rfl) (hb hby at_63) ?_
    intro rv63 T63 h63 L63 X63 e63 hQ63
    obtain ⟨⟨r63_, rfl, hr63⟩, NQ63, eq63⟩ := hQ63
    rw [eq63] at e63
    have rr63 := rng32 r63_
    have N63 := Fr.app N60 NQ63
    show own_Ends p e below s room_1.cells room_1.slots (Q0 Z q1 q2 q3 q4 h0 n0) T63 (mkF m 66 #[.val (.int q1), .val (.int q2), .val (.int q3), .val (.long q4), .second, .val (.int v6), .val (.int (1 : Int32)), .val (.int (128 : Int32)), .val (.ref b36), .val (.int r53_), .unset] [(.int r63_)])
    refine own_go (mkF m 68 #[.val (.int q1), .val (.int q2), .val (.int q3), .val (.long q4), .second, .val (.int v6), .val (.int (1 : Int32)), .val (.int (128 : Int32)), .val (.ref b36), .val (.int r53_), .val (.int r63_)] []) (fun t k => XS.istore X63.here hx rfl (hb hby at_66) rfl (l' := #[.val (.int q1), .val (.int q2), .val (.int q3), .val (.long q4), .second, .val (.int v6), .val (.int (1 : Int32)), .val (.int (128 : Int32)), .val (.ref b36), .val (.int r53_), .val (.int r63_)]) rfl k) ?_
    refine own_go (mkF m 70 #[.val (.int q1), .val (.int q2), .val (.int q3), .val (.long q4), .second, .val (.int v6), .val (.int (1 : Int32)), .val (.int (128 : Int32)), .val (.ref b36), .val (.int r53_), .val (.int r63_)] [(.int r53_)]) (fun t k => XS.iload X63.here hx rfl (hb hby at_68) rfl k) ?_
    refine own_go (mkF m 72 #[.val (.int q1), .val (.int q2), .val (.int q3), .val (.long q4), .second, .val (.int v6), .val (.int (1 : Int32)), .val (.int (128 : Int32)), .val (.ref b36), .val (.int r53_), .val (.int r63_)] [(.int (1 : Int32)), (.int r53_)]) (fun t k => XS.iload X63.here hx rfl (hb hby at_70) rfl k) ?_
    by_cases c72 : r53_.toInt = 1
    · skip
      refine own_go (mkF m 75 #[.val (.int q1), .val (.int q2), .val (.int q3), .val (.long q4), .second, .val (.int v6), .val (.int (1 : Int32)), .val (.int (128 : Int32)), .val (.ref b36), .val (.int r53_), .val (.int r63_)] []) (fun t k => XS.icmpNo X63.here hx rfl (hb hby at_72) rfl (own_icF (cd := .ne) (fun q => q c72)) k) ?_
      refine own_go (mkF m 77 #[.val (.int q1), .val (.int q2), .val (.int q3), .val (.long q4), .second, .val (.int v6), .val (.int (1 : Int32)), .val (.int (128 : Int32)), .val (.ref b36), .val (.int r53_), .val (.int r63_)] [(.int r63_)]) (fun t k => XS.iload X63.here hx rfl (hb hby at_75) rfl k) ?_
      refine own_go (mkF m 79 #[.val (.int q1), .val (.int q2), .val (.int q3), .val (.long q4), .second, .val (.int v6), .val (.int (1 : Int32)), .val (.int (128 : Int32)), .val (.ref b36), .val (.int r53_), .val (.int r63_)] [(.int (1 : Int32)), (.int r63_)]) (fun t k => XS.iload X63.here hx rfl (hb hby at_77) rfl k) ?_
      refine own_go (mkF m 86 #[.val (.int q1), .val (.int q2), .val (.int q3), .val (.long q4), .second, .val (.int v6), .val (.int (1 : Int32)), .val (.int (128 : Int32)), .val (.ref b36), .val (.int r53_), .val (.int r63_)] [(.int r63_)]) (fun t k => XS.ifYes X63.here hx rfl (pc0 := 79) (pc' := 86) rfl (hb hby at_79) rfl (by decide) (by decide) (by decide) k) ?_
      refine own_go (mkF m 87 #[.val (.int q1), .val (.int q2), .val (.int q3), .val (.long q4), .second, .val (.int v6), .val (.int (1 : Int32)), .val (.int (128 : Int32)), .val (.ref b36), .val (.int r53_), .val (.int r63_)] [(.int (0 : Int32)), (.int r63_)]) (fun t k => XS.iconst X63.here hx rfl (hb hby at_86) k) ?_
      by_cases c87 : r63_.toInt = 0
      · skip
        refine own_go (mkF m 90 #[.val (.int q1), .val (.int q2), .val (.int q3), .val (.long q4), .second, .val (.int v6), .val (.int (1 : Int32)), .val (.int (128 : Int32)), .val (.ref b36), .val (.int r53_), .val (.int r63_)] []) (fun t k => XS.icmpNo X63.here hx rfl (hb hby at_87) rfl (own_icF (cd := .ne) (fun q => q c87)) k) ?_
        refine own_go (mkF m 91 #[.val (.int q1), .val (.int q2), .val (.int q3), .val (.long q4), .second, .val (.int v6), .val (.int (1 : Int32)), .val (.int (128 : Int32)), .val (.ref b36), .val (.int r53_), .val (.int r63_)] [(.int (1 : Int32))]) (fun t k => XS.iconst X63.here hx rfl (hb hby at_90) k) ?_
        refine own_go (mkF m 95 #[.val (.int q1), .val (.int q2), .val (.int q3), .val (.long q4), .second, .val (.int v6), .val (.int (1 : Int32)), .val (.int (128 : Int32)), .val (.ref b36), .val (.int r53_), .val (.int r63_)] [(.int (1 : Int32))]) (fun t k => XS.goto X63.here hx rfl (pc0 := 91) (pc' := 95) rfl (hb hby at_91) (by decide) (by decide) k) ?_
        refine own_retI X63 hx hlk hret (by simp) rfl (hb hby at_95) (by decide) (by decide) ?_
        rw [e63]
        exact ⟨rfl, N63⟩
      · skip
        refine own_go (mkF m 94 #[.val (.int q1), .val (.int q2), .val (.int q3), .val (.long q4), .second, .val (.int v6), .val (.int (1 : Int32)), .val (.int (128 : Int32)), .val (.ref b36), .val (.int r53_), .val (.int r63_)] []) (fun t k => XS.icmpYes X63.here hx rfl (pc0 := 87) (pc' := 94) rfl (hb hby at_87) rfl (own_icT (cd := .ne) c87) (by decide) (by decide) k) ?_
        refine own_go (mkF m 95 #[.val (.int q1), .val (.int q2), .val (.int q3), .val (.long q4), .second, .val (.int v6), .val (.int (1 : Int32)), .val (.int (128 : Int32)), .val (.ref b36), .val (.int r53_), .val (.int r63_)] [(.int (0 : Int32))]) (fun t k => XS.iconst X63.here hx rfl (hb hby at_94) k) ?_
        refine own_retI X63 hx hlk hret (by simp) rfl (hb hby at_95) (by decide) (by decide) ?_
        rw [e63]
        exfalso
        omega
    · skip
      refine own_go (mkF m 94 #[.val (.int q1), .val (.int q2), .val (.int q3), .val (.long q4), .second, .val (.int v6), .val (.int (1 : Int32)), .val (.int (128 : Int32)), .val (.ref b36), .val (.int r53_), .val (.int r63_)] []) (fun t k => XS.icmpYes X63.here hx rfl (pc0 := 72) (pc' := 94) rfl (hb hby at_72) rfl (own_icT (cd := .ne) c72) (by decide) (by decide) k) ?_
      refine own_go (mkF m 95 #[.val (.int q1), .val (.int q2), .val (.int q3), .val (.long q4), .second, .val (.int v6), .val (.int (1 : Int32)), .val (.int (128 : Int32)), .val (.ref b36), .val (.int r53_), .val (.int r63_)] [(.int (0 : Int32))]) (fun t k => XS.iconst X63.here hx rfl (hb hby at_94) k) ?_
      refine own_retI X63 hx hlk hret (by simp) rfl (hb hby at_95) (by decide) (by decide) ?_
      rw [e63]
      exfalso
      omega
set_option maxRecDepth 65536 in
set_option maxHeartbeats 40000000 in
theorem comes_1 {Post : Tables → Env → Array Value → State → Outcome → State → Prop} (hpost : ∀ tb e args s v u, (limb_1_1.after args s (.returned v) u = true ∧ limb_1_2.after args s (.returned v) u = true ∧ True) → FrameEnd s (.returned v) u (Jvm.fieldLocs frame_1_writes args s ++ Jvm.arrayLocs frame_1_arrays args s ++ Jvm.staticLocs frame_1_statics s) 16 128 → Post tb e args s (.returned v) u) :
    ArmFor flags0 classFile x code maxLocals ret World_1 tables_1 room_1 Calls_1 rest_1 Pre_1 Post := by
  intro l hfl _ _ p e ha hc hk s m args below hf hA hF happ hP
  obtain ⟨hcalls, hrest, hpre⟩ := hP
  obtain ⟨-, -, -, hnamed, -, -, -, hat⟩ := (Spec.applies_iff hf).mp happ
  obtain ⟨hg, hn⟩ := and_e (Cond.before_iff.mp (show (Jvm.Cond.and given_1 narrow_1).before args s = true from hpre))
  obtain ⟨q0, u0⟩ := and_e hg
  obtain ⟨k0, u1⟩ := and_e u0
  obtain ⟨k1, u2⟩ := and_e u1
  obtain ⟨k2, u3⟩ := and_e u2
  obtain ⟨w0, w1, w2, w3, rfl⟩ : ∃ w0 w1 w2 w3 : Value, args = #[w0, w1, w2, w3] := by
    have hs : args.size = 4 := by simpa [Cond.value, given_1] using q0
    obtain ⟨L⟩ := args
    match L, hs with
    | [w0, w1, w2, w3], _ => exact ⟨w0, w1, w2, w3, rfl⟩
  have hw := fun d (hd : d ∈ tables_1) => atoms_spec (ws := Jvm.Cond.code x code maxLocals ret :: tables_1) hat d (List.mem_cons_of_mem _ hd)
  obtain ⟨i0, g0⟩ := is_v k0
  obtain rfl : w0 = (.int i0) := Option.some.inj g0
  obtain ⟨i1, g1⟩ := is_v k1
  obtain rfl : w1 = (.int i1) := Option.some.inj g1
  obtain ⟨i2, g2⟩ := is_v k2
  obtain rfl : w2 = (.int i2) := Option.some.inj g2
  obtain ⟨i3, g3⟩ := isL_v u3
  obtain rfl : w3 = (.long i3) := Option.some.inj g3
  obtain ⟨n, o, h1, h2, h3, _, L, rfl, ⟨rfl, N⟩, hq⟩ := rm0 l s _ hw tables_1 i0 i1 i2 i3 s.heap s.heap.size (Nat.le_refl _)  p e ha hc hk s m _ below hf ((Spec.applies_iff_loose hf).mp happ).1 ⟨rfl, State.Warmed39.refl s, rfl⟩ trivial
  refine ⟨n, _, h1, h2, h3, hpost _ _ _ _ _ _ ⟨Cond.after_iff.mpr rfl, Cond.after_iff.mpr (eq_i res_at (Term.int_eval (1)) rfl), trivial⟩ ⟨hq.1, hq.2.1, (hq.2.2.sift fun y hy => Or.inr (N y hy)).mono (by decide) (by decide)⟩⟩
theorem main_1_1 : Claimed_1_1 := comes_1 fun _ _ _ _ _ _ h hF => ⟨h.1, hF⟩
theorem main_1_2 : Claimed_1_2 := comes_1 fun _ _ _ _ _ _ h hF => ⟨h.2.1, hF⟩
end Jvm.Pilot.@@N@@
namespace Jvm.Pilot.@@N@@
open Jvm Jvm.ClassFile Sem Op Lib Jvm.Free Jvm.Stand Jvm.Pilot.@@N@@.Jvm.D
/-! MADE BY PROGRAM (witnessworld.py) out of the Statement's table words and the real class files: 10 classes; the members and pool entries that the words name. The judged class is class 1, her method 1. -/
namespace start1
open Jvm.ClassFile
def u (s : String) : CpInfo := .utf8 (stringToUtf16 s)
/-- a pool by its gaps: so many unusable entries, then the entry; so many at the end -/
def gap : Nat → List CpInfo → List CpInfo
  | 0, r => r
  | n + 1, r => .unusable :: gap n r
def poolList (es : List (Nat × CpInfo)) (last : Nat) : List CpInfo := es.foldr (fun e r => gap e.1 (e.2 :: r)) (gap last [])
def pool (es : List (Nat × CpInfo)) (last : Nat) : Array CpInfo := ⟨poolList es last⟩
def fileOf (pool : Array CpInfo) (this : Nat) (attrs : Array Attribute := #[]) (ms : Array MethodInfo := #[]) (fl : Nat := 33) (sup : Nat := 0) (ifs : Array Nat := #[]) (fds : Array FieldInfo := #[]) : ClassFile where
  minorVersion := 0
  majorVersion := 65
  constantPool := pool
  accessFlags := fl
  thisClass := this
  superClass := sup
  interfaces := ifs
  fields := fds
  methods := ms
  attributes := attrs
def plain (name : String) (sup : Option ClassId) : Class where
  name := name
  kind := .ordinary
  loader := none
  accessFlags := 33
  super := sup
  interfaces := #[]
  cf := none
  fields := #[]
  methods := #[]
  instanceTypes := #[]
  staticTypes := #[]
  resolved := #[]
  callSites := []
  init := .initialized
  statics := none
  mirror := none

def pool0 : Array CpInfo := pool [(5, u "<init>"), (0, u "()V"), (1, .class_ 10), (1, u "java/lang/Object")] 113

def k0c0 : Code := { maxStack := 0, maxLocals := 1, code := object_method_1_code, exceptionTable := #[], attributes := #[] }
def k0m0 : Method := { name := "<init>", desc := "()V", sig := { parameters := [], returnType := none }, accessFlags := 1, code := some k0c0 }
/-- java/lang/Object -/
def k0 : Class := { plain "java/lang/Object" none with
  accessFlags := 33
  interfaces := #[]
  cf := some (fileOf pool0 8 #[] #[{ accessFlags := 1, nameIndex := 5, descriptorIndex := 6, attributes := #[] }] 33 0 #[] #[])
  fields := #[]
  methods := #[k0m0]
  instanceTypes := #[]
  staticTypes := #[]
  resolved := Array.replicate 124 none
  statics := none }

def pool1 : Array CpInfo := pool [(2, .class_ 4), (1, u "java/lang/Object"), (0, u "<init>"), (0, u "()V"), (0, .integer 2147483647), (0, .class_ 9), (0, u "com/example/dispatchwire/dispatchwire/automation/Decimal"), (0, .methodref 8 11), (0, .nameAndType 5 12), (0, u "(IIIJ)V"), (0, .methodref 8 14), (0, .nameAndType 15 16), (0, u "negative"), (0, u "()Z"), (0, .methodref 8 18), (0, .nameAndType 19 20), (0, u "negate"), (0, u "()Lcom/example/dispatchwire/dispatchwire/automation/Decimal;"), (0, .class_ 22), (0, u "com/example/dispatchwire/dispatchwire/automation/DecimalNegativePinLaw"), (2, u "law"), (0, u "(IIIJ)Z")] 3

def k1m0 : Method := { name := "<init>", desc := "()V", sig := { parameters := [], returnType := none }, accessFlags := 1, code := none }
def k1c1 : Code := { maxStack := 7, maxLocals := 11, code := code, exceptionTable := #[], attributes := #[] }
def k1m1 : Method := { name := "law", desc := "(IIIJ)Z", sig := { parameters := [.int, .int, .int, .long], returnType := some .boolean }, accessFlags := 9, code := some k1c1 }
/-- com/example/dispatchwire/dispatchwire/automation/DecimalNegativePinLaw -/
def k1 : Class := { plain "com/example/dispatchwire/dispatchwire/automation/DecimalNegativePinLaw" (some 0) with
  accessFlags := 49
  interfaces := #[]
  cf := some (fileOf pool1 21 #[] #[{ accessFlags := 1, nameIndex := 5, descriptorIndex := 6, attributes := #[] }, { accessFlags := 9, nameIndex := 25, descriptorIndex := 26, attributes := #[] }] 49 2 #[] #[])
  fields := #[]
  methods := #[k1m0, k1m1]
  instanceTypes := #[]
  staticTypes := #[]
  resolved := Array.replicate 30 none
  statics := none }

def pool2 : Array CpInfo := pool [(1, .methodref 2 3), (0, .class_ 4), (0, .nameAndType 5 6), (0, u "java/lang/Object"), (0, u "<init>"), (0, u "()V"), (0, .class_ 8), (0, u "java/lang/Record")] 13

def k2c0 : Code := { maxStack := 1, maxLocals := 1, code := jdk_30_method_1_code, exceptionTable := #[], attributes := #[] }
def k2m0 : Method := { name := "<init>", desc := "()V", sig := { parameters := [], returnType := none }, accessFlags := 4, code := some k2c0 }
/-- java/lang/Record -/
def k2 : Class := { plain "java/lang/Record" (some 0) with
  accessFlags := 1057
  interfaces := #[]
  cf := some (fileOf pool2 7 #[] #[{ accessFlags := 4, nameIndex := 5, descriptorIndex := 6, attributes := #[] }] 1057 2 #[] #[])
  fields := #[]
  methods := #[k2m0]
  instanceTypes := #[]
  staticTypes := #[]
  resolved := Array.replicate 22 none
  statics := none }

def pool3 : Array CpInfo := pool [(1, .methodref 2 3), (0, .class_ 4), (0, .nameAndType 5 6), (0, u "java/lang/Record"), (0, u "<init>"), (0, u "()V"), (0, .class_ 8), (0, u "com/example/dispatchwire/dispatchwire/automation/Decimal"), (10, .fieldref 7 20), (0, .nameAndType 21 22), (0, u "scale"), (0, u "I"), (0, .fieldref 7 24), (0, .nameAndType 25 22), (0, u "sign"), (0, .fieldref 7 27), (0, .nameAndType 28 22), (0, u "hi32"), (0, .fieldref 7 30), (0, .nameAndType 31 32), (0, u "lo64"), (0, u "J"), (8, u "MAX_MAGNITUDE"), (0, u "Ljava/math/BigInteger;"), (55, .methodref 7 99), (0, .nameAndType 5 100), (0, u "(IIIJ)V"), (31, u "negative"), (0, u "()Z"), (2, u "negate"), (19, u "MAX_SCALE"), (2, u "DECIMAL_NEG"), (8, u "()Lcom/example/dispatchwire/dispatchwire/automation/Decimal;")] 42

def k3c0 : Code := { maxStack := 3, maxLocals := 6, code := prog_8_method_1_code, exceptionTable := #[], attributes := #[] }
def k3m0 : Method := { name := "<init>", desc := "(IIIJ)V", sig := { parameters := [.int, .int, .int, .long], returnType := none }, accessFlags := 1, code := some k3c0 }
def k3c1 : Code := { maxStack := 2, maxLocals := 1, code := prog_8_method_3_code, exceptionTable := #[], attributes := #[] }
def k3m1 : Method := { name := "negative", desc := "()Z", sig := { parameters := [], returnType := some .boolean }, accessFlags := 1, code := some k3c1 }
def k3c2 : Code := { maxStack := 7, maxLocals := 1, code := prog_8_method_6_code, exceptionTable := #[], attributes := #[] }
def k3m2 : Method := { name := "negate", desc := "()Lcom/example/dispatchwire/dispatchwire/automation/Decimal;", sig := { parameters := [], returnType := some (.object "com/example/dispatchwire/dispatchwire/automation/Decimal") }, accessFlags := 1, code := some k3c2 }
/-- com/example/dispatchwire/dispatchwire/automation/Decimal -/
def k3 : Class := { plain "com/example/dispatchwire/dispatchwire/automation/Decimal" (some 2) with
  accessFlags := 49
  interfaces := #[]
  cf := some (fileOf pool3 7 #[] #[{ accessFlags := 1, nameIndex := 5, descriptorIndex := 100, attributes := #[] }, { accessFlags := 1, nameIndex := 132, descriptorIndex := 133, attributes := #[] }, { accessFlags := 1, nameIndex := 136, descriptorIndex := 168, attributes := #[] }] 49 2 #[] #[{ accessFlags := 18, nameIndex := 21, descriptorIndex := 22, attributes := #[] }, { accessFlags := 18, nameIndex := 25, descriptorIndex := 22, attributes := #[] }, { accessFlags := 18, nameIndex := 28, descriptorIndex := 22, attributes := #[] }, { accessFlags := 18, nameIndex := 31, descriptorIndex := 32, attributes := #[] }, { accessFlags := 25, nameIndex := 156, descriptorIndex := 22, attributes := #[] }, { accessFlags := 25, nameIndex := 159, descriptorIndex := 22, attributes := #[] }, { accessFlags := 26, nameIndex := 41, descriptorIndex := 42, attributes := #[] }])
  fields := #[{ name := "scale", type := .int, accessFlags := 18, slot := 0, constantValue := 0 }, { name := "sign", type := .int, accessFlags := 18, slot := 1, constantValue := 0 }, { name := "hi32", type := .int, accessFlags := 18, slot := 2, constantValue := 0 }, { name := "lo64", type := .long, accessFlags := 18, slot := 3, constantValue := 0 }, { name := "MAX_SCALE", type := .int, accessFlags := 25, slot := 0, constantValue := 0 }, { name := "DECIMAL_NEG", type := .int, accessFlags := 25, slot := 1, constantValue := 0 }, { name := "MAX_MAGNITUDE", type := (.object "java/math/BigInteger"), accessFlags := 26, slot := 2, constantValue := 0 }]
  methods := #[k3m0, k3m1, k3m2]
  instanceTypes := #[.int, .int, .int, .long]
  staticTypes := #[.int, .int, (.object "java/math/BigInteger")]
  resolved := Array.replicate 211 none
  statics := none }

def pool4 : Array CpInfo := pool [(1, u "java/lang/Cloneable"), (0, .class_ 1), (0, u "java/lang/Object"), (0, .class_ 3)] 3

/-- java/lang/Cloneable -/
def k4 : Class := { plain "java/lang/Cloneable" (some 0) with
  accessFlags := 1537
  interfaces := #[]
  cf := some (fileOf pool4 2 #[] #[] 1537 4 #[] #[])
  fields := #[]
  methods := #[]
  instanceTypes := #[]
  staticTypes := #[]
  resolved := Array.replicate 8 none
  statics := none }

def pool5 : Array CpInfo := pool [(1, u "java/io/Serializable"), (0, .class_ 1), (0, u "java/lang/Object"), (0, .class_ 3)] 3

/-- java/io/Serializable -/
def k5 : Class := { plain "java/io/Serializable" (some 0) with
  accessFlags := 1537
  interfaces := #[]
  cf := some (fileOf pool5 2 #[] #[] 1537 4 #[] #[])
  fields := #[]
  methods := #[]
  instanceTypes := #[]
  staticTypes := #[]
  resolved := Array.replicate 8 none
  statics := none }

/-- the primitive byte -/
def k6 : Class := { plain "byte" none with kind := .primitive 'B', accessFlags := 0x411 }
/-- [B -/
def k7 : Class := { plain "[B" (some 0) with kind := .array 6 .byte, interfaces := #[4, 5], accessFlags := 1041 }

/-- the primitive int -/
def k8 : Class := { plain "int" none with kind := .primitive 'I', accessFlags := 0x411 }
/-- [I -/
def k9 : Class := { plain "[I" (some 0) with kind := .array 8 .int, interfaces := #[4, 5], accessFlags := 1041 }

def heap : Heap := #[]
def classes : Array Class := #[k0, k1, k2, k3, k4, k5, k6, k7, k8, k9]
def interned : List (Array UInt16 × Addr) := []
def slotsUsed : Nat := 0
def theMethod : MethodId := ⟨1, 1⟩
def args0 : Array Value := #[.int 5, .int 7, .int 2, .long 4]
def aboutOver (below : List Frame) : State where
  vm := { classes := classes, interned := interned.toArray }
  heap := heap
  slotsUsed := slotsUsed
  threads := #[{ frames := .invoking theMethod args0 :: below }]
def below0 : List Frame := [.native { method := ⟨0, 0⟩, args := #[] }]
def about1 : State := aboutOver below0
def p0 : Program := .bare "" "" ""
def e0 : Env := launch0.env 0 0 0
theorem w_frames : about1.frames = Frame.invoking theMethod args0 :: below0 := rfl
set_option maxRecDepth 65536 in
theorem w_args : argsFit about1.vm theMethod args0 = true := by decide +kernel
set_option maxRecDepth 65536 in
theorem w_heap : heapFits about1 = true := by decide +kernel
set_option maxRecDepth 65536 in
theorem w_runnable : about1.curStatus? = some .runnable := by decide +kernel
set_option maxRecDepth 65536 in
theorem w_alone : about1.alone = true := by decide +kernel
set_option maxRecDepth 65536 in
theorem w_named : about1.methodNamed? x = some theMethod := by decide +kernel
set_option maxRecDepth 65536 in
theorem w_hears : about1.hears theMethod below0 = true := by decide +kernel
set_option maxRecDepth 65536 in
theorem w_ripe : about1.ripe theMethod args0 below0 = true := by decide +kernel
theorem w_running : about1.status = .running := rfl
set_option maxRecDepth 65536 in
theorem w_room : about1.hasRoom e0.platform room_1 = true :=
  launch0.hasRoom_least _ room_1 (by decide +kernel) (by decide +kernel) (by decide +kernel) (by decide +kernel) (by decide +kernel) (by decide +kernel)
theorem allAtoms_all (ts : List Jvm.Cond) (a : Array Jvm.Value) (st : Jvm.State) : (allAtoms ts).before a st = ts.all (fun c => c.before a st) := by
  induction ts with
  | nil => rfl
  | cons c t ih =>
    show (Jvm.Cond.and c (allAtoms t)).before a st = _
    rw [Jvm.Cond.before_and, ih, List.all_cons]
def words1 : List Jvm.Cond := Jvm.Cond.code x code maxLocals ret :: tables_1
/-- a 'code' word, met by the world's own term for the bytes: nothing is compared byte by byte -/
theorem code_word {y : MethodName} {bytes : ByteArray} {mx : Nat} {rt : Option FieldType} {a : Array Value} {s : State} {m : MethodId} {meth : Method} {c : Code} (h1 : s.methodNamed? y = some m) (h2 : s.vm.method? m = some meth) (h3 : meth.code = some c) (h4 : c.code = bytes)
    (h5 : (c.maxLocals == mx && c.exceptionTable.isEmpty && decide (c.maxStack ≤ mostOperands) && decide (meth.sig.returnType = rt) && !meth.locks && decide (parseMethodDescriptor y.desc = some meth.sig)) = true) : (Jvm.Cond.code y bytes mx rt).before a s = true := by
  simp only [Bool.and_eq_true, beq_iff_eq, Bool.not_eq_true', decide_eq_true_eq] at h5
  obtain ⟨⟨⟨⟨⟨g1, g2⟩, g3⟩, g4⟩, g5⟩, g6⟩ := h5
  simp [Cond.before, Cond.holds, Cond.value, h1, h2, h3, h4, g1, g2, g3, g4, g5, g6]
def isCode : Jvm.Cond → Bool
  | .code _ _ _ _ => true
  | _ => false
theorem all_split {L : List Jvm.Cond} {P : Jvm.Cond → Bool} (h1 : L.all (fun c => isCode c || P c) = true) (h2 : ∀ c ∈ L.filter isCode, P c = true) : L.all P = true := by
  refine List.all_eq_true.mpr fun c hc => ?_
  have h := List.all_eq_true.mp h1 c hc
  rcases Bool.eq_false_or_eq_true (isCode c) with hi | hi
  · exact h2 c (List.mem_filter.mpr ⟨hc, hi⟩)
  · simpa [hi] using h
set_option maxRecDepth 65536 in
theorem w_c0 : (Jvm.Cond.code x code maxLocals ret).before args0 about1 = true := code_word (m := ⟨1, 1⟩) (meth := k1m1) (c := k1c1) (by decide +kernel) rfl rfl rfl (by decide +kernel)
set_option maxRecDepth 65536 in
theorem w_c1 : (Jvm.Cond.code ({ cls := "com/example/dispatchwire/dispatchwire/automation/Decimal", name := "<init>", desc := "(IIIJ)V" } : Jvm.MethodName) prog_8_method_1_code (6 : Nat) (Option.none : Option Jvm.ClassFile.FieldType)).before args0 about1 = true := code_word (m := ⟨3, 0⟩) (meth := k3m0) (c := k3c0) (by decide +kernel) rfl rfl rfl (by decide +kernel)
set_option maxRecDepth 65536 in
theorem w_c2 : (Jvm.Cond.code ({ cls := "java/lang/Record", name := "<init>", desc := "()V" } : Jvm.MethodName) jdk_30_method_1_code (1 : Nat) (Option.none : Option Jvm.ClassFile.FieldType)).before args0 about1 = true := code_word (m := ⟨2, 0⟩) (meth := k2m0) (c := k2c0) (by decide +kernel) rfl rfl rfl (by decide +kernel)
set_option maxRecDepth 65536 in
theorem w_c3 : (Jvm.Cond.code ({ cls := "java/lang/Object", name := "<init>", desc := "()V" } : Jvm.MethodName) object_method_1_code (1 : Nat) (Option.none : Option Jvm.ClassFile.FieldType)).before args0 about1 = true := code_word (m := ⟨0, 0⟩) (meth := k0m0) (c := k0c0) (by decide +kernel) rfl rfl rfl (by decide +kernel)
set_option maxRecDepth 65536 in
theorem w_c4 : (Jvm.Cond.code ({ cls := "com/example/dispatchwire/dispatchwire/automation/Decimal", name := "negative", desc := "()Z" } : Jvm.MethodName) prog_8_method_3_code (1 : Nat) (Option.some Jvm.ClassFile.FieldType.boolean)).before args0 about1 = true := code_word (m := ⟨3, 1⟩) (meth := k3m1) (c := k3c1) (by decide +kernel) rfl rfl rfl (by decide +kernel)
set_option maxRecDepth 65536 in
theorem w_c5 : (Jvm.Cond.code ({ cls := "com/example/dispatchwire/dispatchwire/automation/Decimal", name := "negate", desc := "()Lcom/example/dispatchwire/dispatchwire/automation/Decimal;" } : Jvm.MethodName) prog_8_method_6_code (1 : Nat) (Option.some (Jvm.ClassFile.FieldType.object "com/example/dispatchwire/dispatchwire/automation/Decimal"))).before args0 about1 = true := code_word (m := ⟨3, 2⟩) (meth := k3m2) (c := k3c2) (by decide +kernel) rfl rfl rfl (by decide +kernel)
def codes1 : List Jvm.Cond := [Jvm.Cond.code x code maxLocals ret, Jvm.Cond.code ({ cls := "com/example/dispatchwire/dispatchwire/automation/Decimal", name := "<init>", desc := "(IIIJ)V" } : Jvm.MethodName) prog_8_method_1_code (6 : Nat) (Option.none : Option Jvm.ClassFile.FieldType), Jvm.Cond.code ({ cls := "java/lang/Record", name := "<init>", desc := "()V" } : Jvm.MethodName) jdk_30_method_1_code (1 : Nat) (Option.none : Option Jvm.ClassFile.FieldType), Jvm.Cond.code ({ cls := "java/lang/Object", name := "<init>", desc := "()V" } : Jvm.MethodName) object_method_1_code (1 : Nat) (Option.none : Option Jvm.ClassFile.FieldType), Jvm.Cond.code ({ cls := "com/example/dispatchwire/dispatchwire/automation/Decimal", name := "negative", desc := "()Z" } : Jvm.MethodName) prog_8_method_3_code (1 : Nat) (Option.some Jvm.ClassFile.FieldType.boolean), Jvm.Cond.code ({ cls := "com/example/dispatchwire/dispatchwire/automation/Decimal", name := "negate", desc := "()Lcom/example/dispatchwire/dispatchwire/automation/Decimal;" } : Jvm.MethodName) prog_8_method_6_code (1 : Nat) (Option.some (Jvm.ClassFile.FieldType.object "com/example/dispatchwire/dispatchwire/automation/Decimal"))]
set_option maxRecDepth 65536 in
theorem codes_eq : words1.filter isCode = codes1 := rfl
theorem w_codes : ∀ c ∈ words1.filter isCode, c.before args0 about1 = true := by
  rw [codes_eq]
  intro c hc
  simp only [codes1, List.mem_cons, List.not_mem_nil, or_false] at hc
  rcases hc with rfl | rfl | rfl | rfl | rfl | rfl
  · exact w_c0
  · exact w_c1
  · exact w_c2
  · exact w_c3
  · exact w_c4
  · exact w_c5
set_option maxRecDepth 65536 in
theorem w_t1 : (words1.take 24).all (fun c => isCode c || c.before args0 about1) = true := by decide +kernel
set_option maxRecDepth 65536 in
theorem w_t2 : (words1.drop 24).all (fun c => isCode c || c.before args0 about1) = true := by decide +kernel
theorem w_tables : (allAtoms (Jvm.Cond.code x code maxLocals ret :: tables_1)).before args0 about1 = true := by
  rw [allAtoms_all]
  show words1.all (fun c => c.before args0 about1) = true
  refine all_split ?_ w_codes
  rw [← List.take_append_drop 24 words1, List.all_append, w_t1, w_t2]
  rfl
set_option maxRecDepth 65536 in
theorem w_case : (Jvm.Cond.and given_1 narrow_1).before args0 about1 = true := by decide +kernel
theorem w_applies : (headSpec (Jvm.Cond.code x code maxLocals ret :: tables_1) room_1).applies x e0.platform about1 = true :=
  (Spec.applies_iff w_frames).mpr ⟨w_running, w_runnable, w_alone, w_named, w_hears, w_ripe, w_room, w_tables⟩
theorem atStart : AtStart classFile x code maxLocals ret World_1 tables_1 room_1 Calls_1 rest_1 Pre_1 launch0 p0 e0 about1 theMethod args0 below0 :=
  ⟨lists_1, trivial, launch0.admits_env _ _ _, launch0.least_env, fairChoices_fair.cas, fairChoices_fair.clock, w_frames, w_args, w_heap, w_applies, trivial, trivial, w_case⟩
end start1
theorem witness_1 : WitnessClaimed_1 := ⟨start1.p0, start1.e0, start1.about1, start1.theMethod, start1.args0, start1.below0, start1.atStart⟩
end Jvm.Pilot.@@N@@
