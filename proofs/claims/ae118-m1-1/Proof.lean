import JvmDerived
import JvmDerived.Pilot.@@N@@Statement
import JvmDerived.Pilot.@@N@@Code
set_option linter.unusedVariables false
set_option linter.unusedSimpArgs false
namespace Jvm.Pilot.@@N@@
open Jvm Jvm.ClassFile Sem Op Lib Jvm.Free Jvm.Stand Jvm.LawKit Jvm.RoadKit Bundle Jvm.Pilot.@@N@@.Jvm.D
section Own
variable {p : Program} {l : Launch} {e : Env} {R : Room} {s : State} {m : MethodId} {args : Array Value} {below : List Frame} {meth : Method} {c : Code} {T T' : State} {locs : List Loc} {cells slots C S : Nat} {Qv : Option Value → Heap → List Loc → Prop} {Z : State} {a0 : Array Value} {h : Heap}
/-- from here, with this frame on top, the method returns, Qv holds of what it returns, of the heap and of what was written, within C cells and S slots -/
def own_Ends (p : Program) (e : Env) (below : List Frame) (s : State) (C S : Nat) (Qv : Option Value → Heap → List Loc → Prop) (T : State) (g : JFrame) : Prop :=
  ∃ (s₂ : State) (o : Outcome), Steps p.tables e below (T.setTop g) s₂ ∧ s₂.status = .running ∧ Ended s₂ below o ∧ ∃ v L, o = .returned v ∧ Qv v s₂.heap L ∧ FrameEnd s o s₂ L C S
theorem own_go {g : JFrame} (g' : JFrame) (st : ∀ t, Steps p.tables e below (T'.setTop g') t → Steps p.tables e below (T.setTop g) t) (k : own_Ends p e below s C S Qv T' g') : own_Ends p e below s C S Qv T g := by
  obtain ⟨s₂, o, h1, h⟩ := k
  exact ⟨s₂, o, st _ h1, h⟩
theorem own_ret (X : Stand p l e R s m args below meth c T locs cells slots) (hlk : meth.locks = false) {g : JFrame} {v : Option Value} (hv : meth.sig.returnType = none → v = none)
    (st : ∀ fs, (∀ (f : JFrame) (acts : List Action), f.method = m → f.locked = none → f.entered = [] → (doReturn e (T.setTop f) acts v).1 = T.setFrames fs) → Steps p.tables e below (T.setTop g) (T.setFrames fs))
    (hC : cells ≤ C) (hS : slots ≤ S) (hQ : Qv v T.heap locs) : own_Ends p e below s C S Qv T g := by
  obtain ⟨fs, hr, hrun, hended, hW, hsame⟩ := X.leave (v := v) hv hlk
  exact ⟨_, _, st fs hr, hrun, hended, v, locs, rfl, hQ, ⟨_, rfl⟩, hW, hsame.mono hC hS⟩
theorem own_retI (X : Stand p l e R s m args below meth c T locs cells slots) (hx : p.tables.exec = Jvm.exec) (hlk : meth.locks = false) {pc : Nat} {Ls : Array Slot} {z : Int32} {rest : List Value} {t : FieldType} (hret : meth.sig.returnType = some t)
    (ht : t = .int ∨ t = .boolean ∨ t = .byte ∨ t = .char ∨ t = .short) (hn : narrow t (.int z) = .int z) (hd : decode c.code pc = .ok (.ireturn, 1)) (hC : cells ≤ C) (hS : slots ≤ S) (hQ : Qv (some (.int z)) T.heap locs) : own_Ends p e below s C S Qv T (mkF m pc Ls (.int z :: rest)) :=
  own_ret X hlk (fun h => by rw [hret] at h; cases h) (fun fs hr => retOut X hx hret hn (Or.inl ⟨rfl, ht, _, rfl⟩) hd hr) hC hS hQ
theorem own_retN (X : Stand p l e R s m args below meth c T locs cells slots) (hx : p.tables.exec = Jvm.exec) (hlk : meth.locks = false) {pc : Nat} {Ls : Array Slot} {z : Int32} {rest : List Value} {t : FieldType} (hret : meth.sig.returnType = some t)
    (ht : t = .boolean ∨ t = .byte ∨ t = .char ∨ t = .short) (hd : decode c.code pc = .ok (.ireturn, 1)) (hC : cells ≤ C) (hS : slots ≤ S) (hQ : Qv (some (.int (nar t z))) T.heap locs) : own_Ends p e below s C S Qv T (mkF m pc Ls (.int z :: rest)) :=
  own_ret X hlk (fun h => by rw [hret] at h; cases h) (fun fs hr => retN X hx hret ht hd hr) hC hS hQ
theorem own_retL (X : Stand p l e R s m args below meth c T locs cells slots) (hx : p.tables.exec = Jvm.exec) (hlk : meth.locks = false) {pc : Nat} {Ls : Array Slot} {z : Int64} {rest : List Value} (hret : meth.sig.returnType = some .long)
    (hd : decode c.code pc = .ok (.lreturn, 1)) (hC : cells ≤ C) (hS : slots ≤ S) (hQ : Qv (some (.long z)) T.heap locs) : own_Ends p e below s C S Qv T (mkF m pc Ls (.long z :: rest)) :=
  own_ret X hlk (fun h => by rw [hret] at h; cases h) (fun fs hr => retOut X hx hret rfl (Or.inr (Or.inl ⟨rfl, rfl, _, rfl⟩)) hd hr) hC hS hQ
theorem own_retA (X : Stand p l e R s m args below meth c T locs cells slots) (hx : p.tables.exec = Jvm.exec) (hlk : meth.locks = false) {pc : Nat} {Ls : Array Slot} {z : Addr} {rest : List Value} {t : FieldType} (hret : meth.sig.returnType = some t) (ht : t.isReference = true) (hn : narrow t (.ref z) = .ref z)
    (hd : decode c.code pc = .ok (.areturn, 1)) (hC : cells ≤ C) (hS : slots ≤ S) (hQ : Qv (some (.ref z)) T.heap locs) : own_Ends p e below s C S Qv T (mkF m pc Ls (.ref z :: rest)) :=
  own_ret X hlk (fun h => by rw [hret] at h; cases h) (fun fs hr => retOut X hx hret hn (Or.inr (Or.inr (Or.inr (Or.inr ⟨rfl, ht, rfl⟩)))) hd hr) hC hS hQ
theorem own_ret0 (X : Stand p l e R s m args below meth c T locs cells slots) (hx : p.tables.exec = Jvm.exec) (hlk : meth.locks = false) {pc : Nat} {Ls : Array Slot} (hret : meth.sig.returnType = none)
    (hd : decode c.code pc = .ok (.return_, 1)) (hC : cells ≤ C) (hS : slots ≤ S) (hQ : Qv none T.heap locs) : own_Ends p e below s C S Qv T (mkF m pc Ls []) :=
  own_ret X hlk (fun _ => rfl) (fun fs hr => X.returnOut hx hret hd hr) hC hS hQ
/-- a contract out of its body's walk -/
theorem own_met {y : MethodName} {bytes : ByteArray} {maxL : Nat} {ret : Option FieldType} {ws : List Jvm.Cond} {rm : Room} {as' : Array Value} {h0 : Heap} (hp : plainFor y = true)
    (body : ∀ (p : Program) (e : Env) (s : State) (m : MethodId) (below : List Frame) (meth : Method) (c : Code) (T : State), p.tables.exec = Jvm.exec → c.code = bytes → c.maxLocals = maxL → s.vm.findClass y.cls = some m.cls → meth.sig.returnType = ret → meth.locks = false → meth.name = y.name → Z.Warmed39 s.vm → Stand p l e rm s m as' below meth c T [] 0 0 → T.heap = h0 → own_Ends p e below s rm.cells rm.slots Qv T (entryFrame m as' maxL)) :
    MetFree l y (head1 (Jvm.Cond.code y bytes maxL ret :: ws) rm) (fun a U => a = as' ∧ Z.Warmed39 U.vm ∧ U.heap = h0) (fun _ _ _ _ _ => True) (fun _ U o U' => ∃ v L, o = .returned v ∧ Qv v U'.heap L ∧ FrameEnd U o U' L rm.cells rm.slots) := by
  refine MetFree.of_bodySF hp hisR ?_
  intro p e s m args below meth c s₁ Bd hml0 hP hK
  obtain ⟨rfl, hZ, hh⟩ := hP
  exact body p e s m below meth c s₁ Bd.exec Bd.bytes hml0 (findClass_of_methodNamed Bd.named) Bd.returns Bd.notSynchronized ((name_of_methodNamed Bd.named Bd.method).1) hZ (Stand.of_body Bd) (by rw [← hh, Bd.state]; rfl)
/-- what a callee's contract says (as' its arguments, h the heap where it is called) -/
abbrev own_Met (l : Launch) (Z : State) (y : MethodName) (bytes : ByteArray) (maxL : Nat) (ret : Option FieldType) (rm : Room) (as' : Array Value) (h : Heap) (Q : Option Value → Heap → List Loc → Prop) : Prop :=
  MetFree l y (head1 [Jvm.Cond.code y bytes maxL ret] rm) (fun a U => a = as' ∧ Z.Warmed39 U.vm ∧ U.heap = h) (fun _ _ _ _ _ => True) (fun _ U o U' => ∃ v L, o = .returned v ∧ Q v U'.heap L ∧ FrameEnd U o U' L rm.cells rm.slots)
theorem own_callS (X : Stand p l e R s m args below meth c T locs cells slots) (hx : p.tables.exec = Jvm.exec) (hZ : Z.Warmed39 s.vm) {own : String} {index : Nat} {y : MethodName} {bytes : ByteArray} {maxL : Nat} {ret : Option FieldType} {rm : Room} {as' : Array Value} {Q : Option Value → Heap → List Loc → Prop}
    (hown : s.vm.findClass own = some m.cls) (w1 : (Jvm.Cond.methodLink own index y).before a0 Z = true) (w2 : (Jvm.Cond.static y).before a0 Z = true) (w3 : (Jvm.Cond.initialized y.cls).before a0 Z = true) (w4 : (Jvm.Cond.code y bytes maxL ret).before a0 Z = true)
    (hy : y.cls ≠ "java/lang/invoke/MethodHandle" ∧ y.cls ≠ "java/lang/invoke/VarHandle") (eT : T.heap = h) (hM : own_Met l Z y bytes maxL ret rm as' h Q)
    (W : Nat) (hf : rm.frames + 1 ≤ R.frames) (hl : W + (maxL + 11) + rm.locals ≤ R.locals) (hC : cells + rm.cells ≤ R.cells) (hS : slots + rm.slots ≤ R.slots)
    {g : JFrame} (hg : g.method = m) (hsize : g.locals.size = c.maxLocals) (argsL rest : List Value) (hlen : ∀ sig, parseMethodDescriptor y.desc = some sig → argsL.length = sig.parameters.length)
    (hstack : g.stack = argsL.reverse ++ rest) (has : argsL.toArray = as') (hW : 2 * g.monitorRoom + (rest.map fun v => v.category).sum ≤ W) (hd : decode c.code g.pc = .ok (.invokestatic index, 3))
    (k : ∀ v T' h' L, Stand p l e R s m args below meth c T' (locs ++ L) (cells + rm.cells) (slots + rm.slots) → T'.heap = h' → Q v h' L → own_Ends p e below s C S Qv T' { g with pc := g.pc + 3, stack := v.toList ++ rest }) : own_Ends p e below s C S Qv T g := by
  obtain ⟨v, _, ⟨T', L', k', n'⟩, -, X', ⟨Lc, hQ, l1, y1, z1⟩, st⟩ := Jvm.LawKit.callS X hx (y := y) hown (mvT hZ w1) (mvT hZ w2) (mvT hZ w3) (mvT hZ w4) hy (backOf (W := W) hM hZ w4 w3 hf hl) (g := g) hg hsize (argsL := argsL) (rest := rest) hlen hstack hW hd (fun _ _ => ⟨has, eT, hC, hS⟩)
  dsimp only [Pt.U, Pt.locs, Pt.cells, Pt.slots] at X' l1 y1 z1 st hQ
  subst l1 y1 z1
  exact own_go _ st (k v T' _ Lc X' rfl hQ)
theorem own_callI (X : Stand p l e R s m args below meth c T locs cells slots) (hx : p.tables.exec = Jvm.exec) (hZ : Z.Warmed39 s.vm) {own : String} {index : Nat} {y : MethodName} {bytes : ByteArray} {maxL : Nat} {rm : Room} {as' : Array Value} {Q : Option Value → Heap → List Loc → Prop}
    (hown : s.vm.findClass own = some m.cls) (hy1 : y.name = "<init>") (w1 : (Jvm.Cond.methodLink own index y).before a0 Z = true) (w2 : (Jvm.Cond.instanceMethod y).before a0 Z = true) (w3 : (Jvm.Cond.initialized y.cls).before a0 Z = true) (w4 : (Jvm.Cond.code y bytes maxL none).before a0 Z = true)
    (hy : y.cls ≠ "java/lang/invoke/MethodHandle" ∧ y.cls ≠ "java/lang/invoke/VarHandle") (eT : T.heap = h) (hM : own_Met l Z y bytes maxL none rm as' h Q)
    (W : Nat) (hf : rm.frames + 1 ≤ R.frames) (hl : W + (maxL + 11) + rm.locals ≤ R.locals) (hC : cells + rm.cells ≤ R.cells) (hS : slots + rm.slots ≤ R.slots)
    {g : JFrame} (hg : g.method = m) (hsize : g.locals.size = c.maxLocals) (a : Addr) (argsL rest : List Value) (hlen : ∀ sig, parseMethodDescriptor y.desc = some sig → argsL.length = sig.parameters.length)
    (hstack : g.stack = argsL.reverse ++ .ref a :: rest) (has : (Value.ref a :: argsL).toArray = as') (hW : 2 * g.monitorRoom + (rest.map fun v => v.category).sum ≤ W) (hd : decode c.code g.pc = .ok (.invokespecial index, 3))
    (k : ∀ v T' h' L, Stand p l e R s m args below meth c T' (locs ++ L) (cells + rm.cells) (slots + rm.slots) → T'.heap = h' → Q v h' L → own_Ends p e below s C S Qv T' { g with pc := g.pc + 3, stack := v.toList ++ rest }) : own_Ends p e below s C S Qv T g := by
  obtain ⟨v, _, ⟨T', L', k', n'⟩, -, X', ⟨Lc, hQ, l1, y1, z1⟩, st⟩ := Jvm.LawKit.callI X hx (y := y) hown hy1 (mvT hZ w1) (mvT hZ w2) (mvT hZ w4) hy (backOf (W := W) hM hZ w4 w3 hf hl) (g := g) hg hsize (a := a) (argsL := argsL) (rest := rest) hlen hstack hW hd (fun _ _ => ⟨has, eT, hC, hS⟩)
  dsimp only [Pt.U, Pt.locs, Pt.cells, Pt.slots] at X' l1 y1 z1 st hQ
  subst l1 y1 z1
  exact own_go _ st (k v T' _ Lc X' rfl hQ)
theorem own_callV (X : Stand p l e R s m args below meth c T locs cells slots) (hx : p.tables.exec = Jvm.exec) (hZ : Z.Warmed39 s.vm) {own C0 : String} {index : Nat} {y : MethodName} {bytes : ByteArray} {maxL : Nat} {ret : Option FieldType} {rm : Room} {as' : Array Value} {Q : Option Value → Heap → List Loc → Prop}
    (hown : s.vm.findClass own = some m.cls) (w1 : (Jvm.Cond.methodLink own index y).before a0 Z = true) (w5 : (Jvm.Cond.declares y).before a0 Z = true) (w6 : (Jvm.Cond.selects C0 y y).before a0 Z = true) (w2 : (Jvm.Cond.instanceMethod y).before a0 Z = true) (w3 : (Jvm.Cond.initialized y.cls).before a0 Z = true) (w4 : (Jvm.Cond.code y bytes maxL ret).before a0 Z = true)
    (hy : y.cls ≠ "java/lang/invoke/MethodHandle" ∧ y.cls ≠ "java/lang/invoke/VarHandle") (eT : T.heap = h) (a : Addr) (E : Exa Z h a C0) (hM : own_Met l Z y bytes maxL ret rm as' h Q)
    (W : Nat) (hf : rm.frames + 1 ≤ R.frames) (hl : W + (maxL + 11) + rm.locals ≤ R.locals) (hC : cells + rm.cells ≤ R.cells) (hS : slots + rm.slots ≤ R.slots)
    {g : JFrame} (hg : g.method = m) (hsize : g.locals.size = c.maxLocals) (argsL rest : List Value) (hlen : ∀ sig, parseMethodDescriptor y.desc = some sig → argsL.length = sig.parameters.length)
    (hstack : g.stack = argsL.reverse ++ .ref a :: rest) (has : (Value.ref a :: argsL).toArray = as') (hW : 2 * g.monitorRoom + (rest.map fun v => v.category).sum ≤ W) (hd : decode c.code g.pc = .ok (.invokevirtual index, 3))
    (k : ∀ v T' h' L, Stand p l e R s m args below meth c T' (locs ++ L) (cells + rm.cells) (slots + rm.slots) → T'.heap = h' → Q v h' L → own_Ends p e below s C S Qv T' { g with pc := g.pc + 3, stack := v.toList ++ rest }) : own_Ends p e below s C S Qv T g := by
  obtain ⟨cq, kq, q1, q2, q3⟩ := isOf hZ eT E
  obtain ⟨v, _, ⟨T', L', k', n'⟩, -, X', ⟨Lc, hQ, l1, y1, z1⟩, st⟩ := X.virtualBack hx (y := y) (z := y) hown (mvT hZ w1) (mvT hZ w5) (notFace_of_selects (args := #[]) (mvT hZ w6)) (mvT hZ w6) (mvT hZ w2) hy (backOf (W := W) hM hZ w4 w3 hf hl) q1 q3 (g := g) hg hsize (Steps.refl _) (argsL := argsL) (rest := rest) hlen hstack hW hd (fun _ _ => ⟨has, eT, hC, hS⟩)
  dsimp only [Pt.U, Pt.locs, Pt.cells, Pt.slots] at X' l1 y1 z1 st hQ
  subst l1 y1 z1
  exact own_go _ (fun t q => st.trans q) (k v T' _ Lc X' rfl hQ)
theorem own_callP (X : Stand p l e R s m args below meth c T locs cells slots) (hx : p.tables.exec = Jvm.exec) (hZ : Z.Warmed39 s.vm) {own C0 : String} {index kk : Nat} {y : MethodName} {bytes : ByteArray} {maxL : Nat} {ret : Option FieldType} {rm : Room} {as' : Array Value} {Q : Option Value → Heap → List Loc → Prop}
    (hown : s.vm.findClass own = some m.cls) (w1 : (Jvm.Cond.methodLink own index y).before a0 Z = true) (w2 : (Jvm.Cond.instanceMethod y).before a0 Z = true) (wi : (Jvm.Cond.instantiable y.cls kk).before a0 Z = true) (w5 : (Jvm.Cond.privateMethod y).before a0 Z = true) (w3 : (Jvm.Cond.initialized y.cls).before a0 Z = true) (w4 : (Jvm.Cond.code y bytes maxL ret).before a0 Z = true)
    (hy : y.cls ≠ "java/lang/invoke/MethodHandle" ∧ y.cls ≠ "java/lang/invoke/VarHandle") (eT : T.heap = h) (a : Addr) (E : Exa Z h a C0) (hM : own_Met l Z y bytes maxL ret rm as' h Q)
    (W : Nat) (hf : rm.frames + 1 ≤ R.frames) (hl : W + (maxL + 11) + rm.locals ≤ R.locals) (hC : cells + rm.cells ≤ R.cells) (hS : slots + rm.slots ≤ R.slots)
    {g : JFrame} (hg : g.method = m) (hsize : g.locals.size = c.maxLocals) (argsL rest : List Value) (hlen : ∀ sig, parseMethodDescriptor y.desc = some sig → argsL.length = sig.parameters.length)
    (hstack : g.stack = argsL.reverse ++ .ref a :: rest) (has : (Value.ref a :: argsL).toArray = as') (hW : 2 * g.monitorRoom + (rest.map fun v => v.category).sum ≤ W) (hd : decode c.code g.pc = .ok (.invokevirtual index, 3))
    (k : ∀ v T' h' L, Stand p l e R s m args below meth c T' (locs ++ L) (cells + rm.cells) (slots + rm.slots) → T'.heap = h' → Q v h' L → own_Ends p e below s C S Qv T' { g with pc := g.pc + 3, stack := v.toList ++ rest }) : own_Ends p e below s C S Qv T g := by
  obtain ⟨cq, q1, q2⟩ := E.cell
  have hp := Cond.privateMethod_at (mvP hZ w5 (args := #[]))
  obtain ⟨c2, k2, i1, i2, i3, i4, -⟩ := Cond.instantiable_spec (mvT (args := args) hZ wi)
  have hni : k2.isInterface = false := (Bool.or_eq_false_iff.mp i4).1
  have w6 := selects_self_of_private i1 i2 hni hp (mvT (args := args) hZ w2) hy
  obtain ⟨v, _, ⟨T', L', k', n'⟩, -, X', ⟨Lc, hQ, l1, y1, z1⟩, st⟩ := X.privateBack hx (y := y) hown (mvT hZ w1) (mvT hZ w2) w6 hp (mvT hZ w4) hy (backOf (W := W) hM hZ w4 w3 hf hl) (g := g) hg hsize (Steps.refl _) (a := a) (by rw [eT]; exact q1) q2 (argsL := argsL) (rest := rest) hlen hstack hW hd (fun _ _ => ⟨has, eT, hC, hS⟩)
  dsimp only [Pt.U, Pt.locs, Pt.cells, Pt.slots] at X' l1 y1 z1 st hQ
  subst l1 y1 z1
  exact own_go _ (fun t q => st.trans q) (k v T' _ Lc X' rfl hQ)
abbrev own_rel (cd : ClassFile.Cond) (a b : Int) : Prop := match cd with | .eq => a = b | .ne => ¬ a = b | .lt => a < b | .ge => b ≤ a | .gt => b < a | .le => a ≤ b
theorem own_icT {cd : ClassFile.Cond} {x y : Int32} (h : own_rel cd x.toInt y.toInt) : if_icmp.holds cd x y = true := by
  cases cd <;> simp [own_rel] at h <;> simp [if_icmp.holds, Int32.lt_iff_toInt_lt, Int32.le_iff_toInt_le, ← Int32.toInt_inj, h]
theorem own_icF {cd : ClassFile.Cond} {x y : Int32} (h : ¬ own_rel cd x.toInt y.toInt) : if_icmp.holds cd x y = false := by
  cases cd <;> simp [own_rel] at h <;> simp [if_icmp.holds, Int32.lt_iff_toInt_lt, Int32.le_iff_toInt_le, ← Int32.toInt_inj, h]
theorem own_zT {cd : ClassFile.Cond} {x : Int32} (h : own_rel cd x.toInt 0) : ifCond.holds cd x = true := (if0 cd x).trans (own_icT h)
theorem own_zF {cd : ClassFile.Cond} {x : Int32} (h : ¬ own_rel cd x.toInt 0) : ifCond.holds cd x = false := (if0 cd x).trans (own_icF h)
theorem own_cmp (cd : ClassFile.Cond) (x y : Int64) : own_rel cd (lcmpW x y).toInt 0 ↔ own_rel cd x.toInt y.toInt := by
  have h := c_lcmp x y
  cases cd <;> simp only [own_rel] <;> omega
theorem own_lcT {cd : ClassFile.Cond} {x y : Int64} (h : own_rel cd x.toInt y.toInt) : ifCond.holds cd (lcmpW x y) = true := own_zT ((own_cmp cd x y).mpr h)
theorem own_lcF {cd : ClassFile.Cond} {x y : Int64} (h : ¬ own_rel cd x.toInt y.toInt) : ifCond.holds cd (lcmpW x y) = false := own_zF (fun q => h ((own_cmp cd x y).mp q))
theorem own_xorm1 (x : Int64) : (x ^^^ (-1 : Int64)).toInt = -x.toInt - 1 := by
  have h : x ^^^ (-1 : Int64) = ~~~x := by
    apply Int64.toBitVec_inj.mp
    show x.toBitVec ^^^ BitVec.ofInt 64 (-1) = ~~~x.toBitVec
    have : BitVec.ofInt 64 (-1) = BitVec.allOnes 64 := by decide
    rw [this, BitVec.xor_allOnes]
  rw [h, Int64.toInt_not]
  have := rng64 x
  have e : (-x.toInt - 1).bmod (2 ^ 64) = -x.toInt - 1 := by
    rw [Int.bmod_eq_of_le] <;> omega
  first | exact e | omega
theorem own_nz32 {y : Int32} (h : ¬ y.toInt = 0) : y ≠ 0 := fun q => h (by rw [q]; rfl)
theorem own_nz64 {y : Int64} (h : ¬ y.toInt = 0) : y ≠ 0 := fun q => h (by rw [q]; rfl)
theorem own_lremV (x y : Int64) : 0 ≤ x.toInt → 0 < y.toInt → 0 ≤ (x - (x / y) * y).toInt ∧ (x - (x / y) * y).toInt < y.toInt ∧ (x - (x / y) * y).toInt ≤ x.toInt := by
  intro h0 h1
  rw [(c_lrem x y y.toInt rfl).1 h0]
  refine ⟨Int.emod_nonneg _ (by omega), Int.emod_lt_of_pos _ h1, ?_⟩
  have := Int.emod_add_mul_ediv x.toInt y.toInt
  have h2 : 0 ≤ x.toInt / y.toInt := Int.ediv_nonneg h0 (by omega)
  have h3 : 0 ≤ y.toInt * (x.toInt / y.toInt) := Int.mul_nonneg (by omega) h2
  omega
theorem own_iremV (x y : Int32) : 0 ≤ x.toInt → 0 < y.toInt → 0 ≤ (x % y).toInt ∧ (x % y).toInt < y.toInt ∧ (x % y).toInt ≤ x.toInt := fun h0 h1 =>
  have h := (c_iremV x y).1 h0 h1
  ⟨h.1, h.2.1, h.2.2.1⟩
end Own
theorem dR_0 : decode jdk_30_method_1_code 0 = .ok (.aload_n 0, 1) := by decide +kernel
theorem dR_1 : decode jdk_30_method_1_code 1 = .ok (.invokespecial 1, 3) := by decide +kernel
theorem dR_4 : decode jdk_30_method_1_code 4 = .ok (.return_, 1) := by decide +kernel
theorem pfR : plainFor (⟨"java/lang/Record", "<init>", "()V"⟩ : MethodName) = true := by decide +kernel
theorem efR (m : MethodId) (a : Addr) : entryFrame m #[(.ref a)] 1 = (mkF m 0 #[.val (.ref a)] []) := by first | rfl | (simp [entryFrame, mkF, argsToLocals, Value.category, maxLocals]; done)
def QR (Z : State) (a : Addr) (h0 : Heap) (n0 : Nat) (v : Option Value) (h : Heap) (L : List Loc) : Prop := v = none ∧ Fr n0 L ∧ h = h0
set_option maxRecDepth 65536 in
set_option maxHeartbeats 40000000 in
theorem rmR (l : Launch) (Z : State) (a0 : Array Value) (hw : ∀ d ∈ tables_1, d.before a0 Z = true) (ws : List Jvm.Cond) (a : Addr) (h0 : Heap) (n0 : Nat) (Z0 : n0 ≤ h0.size) :
    MetFree l (⟨"java/lang/Record", "<init>", "()V"⟩ : MethodName) (head1 (Jvm.Cond.code (⟨"java/lang/Record", "<init>", "()V"⟩ : MethodName) jdk_30_method_1_code 1 none :: ws) ({ frames := 1, cells := 0, slots := 0, locals := 12 } : Room)) (fun aa U => aa = #[(.ref a)] ∧ Z.Warmed39 U.vm ∧ U.heap = h0) (fun _ _ _ _ _ => True) (fun _ U o U' => ∃ v L, o = .returned v ∧ QR Z a h0 n0 v U'.heap L ∧ FrameEnd U o U' L ({ frames := 1, cells := 0, slots := 0, locals := 12 } : Room).cells ({ frames := 1, cells := 0, slots := 0, locals := 12 } : Room).slots) := by
  refine own_met pfR ?_
  intro p e s m below meth c T0 hx hby hml hown hret hlk hnm hZ X0 e0
  have N0 := Fr.nil n0
  rw [efR]
  refine own_go (mkF m 1 #[.val (.ref a)] [(.ref a)]) (fun t k => XS.aloadN X0.here hx rfl (hb hby dR_0) rfl rfl k) ?_
  obtain ⟨T1, X1, e1, st1⟩ := initO X0 hx hZ hown (hw _ (List.mem_of_getElem? (i := 12) rfl)) (hw _ (List.mem_of_getElem? (i := 13) rfl)) (hw _ (List.mem_of_getElem? (i := 14) rfl)) e0 (g := (mkF m 1 #[.val (.ref a)] [(.ref a)])) rfl (by rw [hml]; rfl) rfl (hb hby dR_1) (by decide) (W := 0) (by show 2 * 0 + _ ≤ _; exact Nat.le_of_eq rfl) (by decide)
  refine own_go (T' := T1) (mkF m 4 #[.val (.ref a)] []) st1 ?_
  refine own_ret0 X1 hx hlk hret (hb hby dR_4) (by decide) (by decide) ?_
  rw [e1]
  exact ⟨rfl, N0, rfl⟩
theorem d1_0 : decode prog_1_method_1_code 0 = .ok (.aload_n 0, 1) := by decide +kernel
theorem d1_1 : decode prog_1_method_1_code 1 = .ok (.invokespecial 1, 3) := by decide +kernel
theorem d1_4 : decode prog_1_method_1_code 4 = .ok (.lload_n 1, 1) := by decide +kernel
theorem d1_5 : decode prog_1_method_1_code 5 = .ok (.lconst 0, 1) := by decide +kernel
theorem d1_6 : decode prog_1_method_1_code 6 = .ok (.lcmp, 1) := by decide +kernel
theorem d1_7 : decode prog_1_method_1_code 7 = .ok (.ifCond .ge 17, 3) := by decide +kernel
theorem d1_24 : decode prog_1_method_1_code 24 = .ok (.lload_n 1, 1) := by decide +kernel
theorem d1_25 : decode prog_1_method_1_code 25 = .ok (.lconst 0, 1) := by decide +kernel
theorem d1_26 : decode prog_1_method_1_code 26 = .ok (.lcmp, 1) := by decide +kernel
theorem d1_27 : decode prog_1_method_1_code 27 = .ok (.ifCond .ne 7, 3) := by decide +kernel
theorem d1_30 : decode prog_1_method_1_code 30 = .ok (.lconst 0, 1) := by decide +kernel
theorem d1_31 : decode prog_1_method_1_code 31 = .ok (.goto 4, 3) := by decide +kernel
theorem d1_34 : decode prog_1_method_1_code 34 = .ok (.lconst 1, 1) := by decide +kernel
theorem d1_35 : decode prog_1_method_1_code 35 = .ok (.lstore 5, 2) := by decide +kernel
theorem d1_37 : decode prog_1_method_1_code 37 = .ok (.lload_n 3, 1) := by decide +kernel
theorem d1_38 : decode prog_1_method_1_code 38 = .ok (.lload 5, 2) := by decide +kernel
theorem d1_40 : decode prog_1_method_1_code 40 = .ok (.lcmp, 1) := by decide +kernel
theorem d1_41 : decode prog_1_method_1_code 41 = .ok (.ifCond .lt 9, 3) := by decide +kernel
theorem d1_44 : decode prog_1_method_1_code 44 = .ok (.lload_n 3, 1) := by decide +kernel
theorem d1_45 : decode prog_1_method_1_code 45 = .ok (.lload_n 1, 1) := by decide +kernel
theorem d1_46 : decode prog_1_method_1_code 46 = .ok (.lcmp, 1) := by decide +kernel
theorem d1_47 : decode prog_1_method_1_code 47 = .ok (.ifCond .le 42, 3) := by decide +kernel
theorem d1_89 : decode prog_1_method_1_code 89 = .ok (.aload_n 0, 1) := by decide +kernel
theorem d1_90 : decode prog_1_method_1_code 90 = .ok (.lload_n 1, 1) := by decide +kernel
theorem d1_91 : decode prog_1_method_1_code 91 = .ok (.putfield 32, 3) := by decide +kernel
theorem d1_94 : decode prog_1_method_1_code 94 = .ok (.aload_n 0, 1) := by decide +kernel
theorem d1_95 : decode prog_1_method_1_code 95 = .ok (.lload_n 3, 1) := by decide +kernel
theorem d1_96 : decode prog_1_method_1_code 96 = .ok (.putfield 38, 3) := by decide +kernel
theorem d1_99 : decode prog_1_method_1_code 99 = .ok (.return_, 1) := by decide +kernel
theorem pd1_0 : parseMethodDescriptor "()V" = some ⟨[], none⟩ := by decide +kernel
theorem pf1 : plainFor (⟨"com/example/libsluice/libsluice/ByteLimit", "<init>", "(JJ)V"⟩ : MethodName) = true := by decide +kernel
theorem ef1 (m : MethodId) (a : Addr) (q1 : Int64) (q2 : Int64) : entryFrame m #[(.ref a), (.long q1), (.long q2)] 7 = (mkF m 0 #[.val (.ref a), .val (.long q1), .second, .val (.long q2), .second, .unset, .unset] []) := by first | rfl | (simp [entryFrame, mkF, argsToLocals, Value.category, maxLocals]; done)
def Q1 (Z : State) (a : Addr) (q1 : Int64) (q2 : Int64) (h0 : Heap) (n0 : Nat) (v : Option Value) (h : Heap) (L : List Loc) : Prop := v = none ∧ Fr n0 L ∧ Keep h0 h [a] ∧ Exa Z h a "com/example/libsluice/libsluice/ByteLimit" ∧ Fld Z h a "com/example/libsluice/libsluice/ByteLimit" "capacity" "J" (.long q1) ∧ Fld Z h a "com/example/libsluice/libsluice/ByteLimit" "resumeMark" "J" (.long q2)
set_option maxRecDepth 65536 in
set_option maxHeartbeats 40000000 in
theorem rm1 (l : Launch) (Z : State) (a0 : Array Value) (hw : ∀ d ∈ tables_1, d.before a0 Z = true) (ws : List Jvm.Cond) (a : Addr) (q1 : Int64) (q2 : Int64) (h0 : Heap) (n0 : Nat) (Z0 : n0 ≤ h0.size) (E_a : Exa Z h0 a "com/example/libsluice/libsluice/ByteLimit") (F_capacity_a : Fld Z h0 a "com/example/libsluice/libsluice/ByteLimit" "capacity" "J" (.long (0 : Int64))) (F_resumeMark_a : Fld Z h0 a "com/example/libsluice/libsluice/ByteLimit" "resumeMark" "J" (.long (0 : Int64))) (g_a : n0 ≤ a) (hp : 0 ≤ q1.toInt ∧ (q1.toInt = 0 → q2.toInt = 0) ∧ (¬ q1.toInt = 0 → 1 ≤ q2.toInt ∧ q2.toInt ≤ q1.toInt)) :
    MetFree l (⟨"com/example/libsluice/libsluice/ByteLimit", "<init>", "(JJ)V"⟩ : MethodName) (head1 (Jvm.Cond.code (⟨"com/example/libsluice/libsluice/ByteLimit", "<init>", "(JJ)V"⟩ : MethodName) prog_1_method_1_code 7 none :: ws) ({ frames := 2, cells := 0, slots := 0, locals := 24 } : Room)) (fun aa U => aa = #[(.ref a), (.long q1), (.long q2)] ∧ Z.Warmed39 U.vm ∧ U.heap = h0) (fun _ _ _ _ _ => True) (fun _ U o U' => ∃ v L, o = .returned v ∧ Q1 Z a q1 q2 h0 n0 v U'.heap L ∧ FrameEnd U o U' L ({ frames := 2, cells := 0, slots := 0, locals := 24 } : Room).cells ({ frames := 2, cells := 0, slots := 0, locals := 24 } : Room).slots) := by
  refine own_met pf1 ?_
  intro p e s m below meth c T0 hx hby hml hown hret hlk hnm hZ X0 e0
  have N0 := Fr.nil n0
  have K0 := Keep.refl h0 [a]
  have r_q1 := rng64 q1
  have r_q2 := rng64 q2
  rw [ef1]
  refine own_go (mkF m 1 #[.val (.ref a), .val (.long q1), .second, .val (.long q2), .second, .unset, .unset] [(.ref a)]) (fun t k => XS.aloadN X0.here hx rfl (hb hby d1_0) rfl rfl k) ?_
  refine own_callI X0 hx hZ (y := (⟨"java/lang/Record", "<init>", "()V"⟩ : MethodName)) hown rfl (hw _ (List.mem_of_getElem? (i := 7) rfl)) (hw _ (List.mem_of_getElem? (i := 8) rfl)) (hw _ (List.mem_of_getElem? (i := 10) rfl)) (hw _ (List.mem_of_getElem? (i := 11) rfl)) (by decide) e0 (rmR l Z a0 hw [] a h0 n0 Z0) 0 (by decide) (by decide) (by decide) (by decide) (g := (mkF m 1 #[.val (.ref a), .val (.long q1), .second, .val (.long q2), .second, .unset, .unset] [(.ref a)])) rfl (by rw [hml]; rfl) a [] [] (lenOf pd1_0 rfl) rfl rfl (by show 2 * 0 + _ ≤ _; exact Nat.le_of_eq rfl) (hb hby d1_1) ?_
  intro rv1 T1 h1 L1 X1 e1 hQ1
  obtain ⟨rfl, NQ1, eq1⟩ := hQ1
  rw [eq1] at e1
  have N1 := Fr.app N0 NQ1
  show own_Ends p e below s ({ frames := 2, cells := 0, slots := 0, locals := 24 } : Room).cells ({ frames := 2, cells := 0, slots := 0, locals := 24 } : Room).slots (Q1 Z a q1 q2 h0 n0) T1 (mkF m 4 #[.val (.ref a), .val (.long q1), .second, .val (.long q2), .second, .unset, .unset] [])
  refine own_go (mkF m 5 #[.val (.ref a), .val (.long q1), .second, .val (.long q2), .second, .unset, .unset] [(.long q1)]) (fun t k => XS.lloadN X1.here hx rfl (hb hby d1_4) rfl k) ?_
  refine own_go (mkF m 6 #[.val (.ref a), .val (.long q1), .second, .val (.long q2), .second, .unset, .unset] [(.long (0 : Int64)), (.long q1)]) (fun t k => XS.lconst X1.here hx rfl (hb hby d1_5) k) ?_
  refine own_go (mkF m 7 #[.val (.ref a), .val (.long q1), .second, .val (.long q2), .second, .unset, .unset] [(.int (lcmpW q1 (0 : Int64)))]) (fun t k => XS.lcmp X1.here hx rfl (hb hby d1_6) rfl k) ?_
  have c7 : 0 ≤ q1.toInt := by omega
  refine own_go (mkF m 24 #[.val (.ref a), .val (.long q1), .second, .val (.long q2), .second, .unset, .unset] []) (fun t k => XS.ifYes X1.here hx rfl (pc0 := 7) (pc' := 24) rfl (hb hby d1_7) rfl (own_lcT (cd := .ge) c7) (by decide) (by decide) k) ?_
  refine own_go (mkF m 25 #[.val (.ref a), .val (.long q1), .second, .val (.long q2), .second, .unset, .unset] [(.long q1)]) (fun t k => XS.lloadN X1.here hx rfl (hb hby d1_24) rfl k) ?_
  refine own_go (mkF m 26 #[.val (.ref a), .val (.long q1), .second, .val (.long q2), .second, .unset, .unset] [(.long (0 : Int64)), (.long q1)]) (fun t k => XS.lconst X1.here hx rfl (hb hby d1_25) k) ?_
  refine own_go (mkF m 27 #[.val (.ref a), .val (.long q1), .second, .val (.long q2), .second, .unset, .unset] [(.int (lcmpW q1 (0 : Int64)))]) (fun t k => XS.lcmp X1.here hx rfl (hb hby d1_26) rfl k) ?_
  by_cases c27 : q1.toInt = 0
  · skip
    refine own_go (mkF m 30 #[.val (.ref a), .val (.long q1), .second, .val (.long q2), .second, .unset, .unset] []) (fun t k => XS.ifNo X1.here hx rfl (hb hby d1_27) rfl (own_lcF (cd := .ne) (fun q => q c27)) k) ?_
    refine own_go (mkF m 31 #[.val (.ref a), .val (.long q1), .second, .val (.long q2), .second, .unset, .unset] [(.long (0 : Int64))]) (fun t k => XS.lconst X1.here hx rfl (hb hby d1_30) k) ?_
    refine own_go (mkF m 35 #[.val (.ref a), .val (.long q1), .second, .val (.long q2), .second, .unset, .unset] [(.long (0 : Int64))]) (fun t k => XS.goto X1.here hx rfl (pc0 := 31) (pc' := 35) rfl (hb hby d1_31) (by decide) (by decide) k) ?_
    refine own_go (mkF m 37 #[.val (.ref a), .val (.long q1), .second, .val (.long q2), .second, .val (.long (0 : Int64)), .second] []) (fun t k => XS.lstore X1.here hx rfl (hb hby d1_35) rfl (l' := #[.val (.ref a), .val (.long q1), .second, .val (.long q2), .second, .val (.long (0 : Int64)), .second]) rfl k) ?_
    refine own_go (mkF m 38 #[.val (.ref a), .val (.long q1), .second, .val (.long q2), .second, .val (.long (0 : Int64)), .second] [(.long q2)]) (fun t k => XS.lloadN X1.here hx rfl (hb hby d1_37) rfl k) ?_
    refine own_go (mkF m 40 #[.val (.ref a), .val (.long q1), .second, .val (.long q2), .second, .val (.long (0 : Int64)), .second] [(.long (0 : Int64)), (.long q2)]) (fun t k => XS.lload X1.here hx rfl (hb hby d1_38) rfl k) ?_
    refine own_go (mkF m 41 #[.val (.ref a), .val (.long q1), .second, .val (.long q2), .second, .val (.long (0 : Int64)), .second] [(.int (lcmpW q2 (0 : Int64)))]) (fun t k => XS.lcmp X1.here hx rfl (hb hby d1_40) rfl k) ?_
    have c41 : ¬ (q2.toInt < 0) := by omega
    refine own_go (mkF m 44 #[.val (.ref a), .val (.long q1), .second, .val (.long q2), .second, .val (.long (0 : Int64)), .second] []) (fun t k => XS.ifNo X1.here hx rfl (hb hby d1_41) rfl (own_lcF (cd := .lt) c41) k) ?_
    refine own_go (mkF m 45 #[.val (.ref a), .val (.long q1), .second, .val (.long q2), .second, .val (.long (0 : Int64)), .second] [(.long q2)]) (fun t k => XS.lloadN X1.here hx rfl (hb hby d1_44) rfl k) ?_
    refine own_go (mkF m 46 #[.val (.ref a), .val (.long q1), .second, .val (.long q2), .second, .val (.long (0 : Int64)), .second] [(.long q1), (.long q2)]) (fun t k => XS.lloadN X1.here hx rfl (hb hby d1_45) rfl k) ?_
    refine own_go (mkF m 47 #[.val (.ref a), .val (.long q1), .second, .val (.long q2), .second, .val (.long (0 : Int64)), .second] [(.int (lcmpW q2 q1))]) (fun t k => XS.lcmp X1.here hx rfl (hb hby d1_46) rfl k) ?_
    have c47 : q2.toInt ≤ q1.toInt := by omega
    refine own_go (mkF m 89 #[.val (.ref a), .val (.long q1), .second, .val (.long q2), .second, .val (.long (0 : Int64)), .second] []) (fun t k => XS.ifYes X1.here hx rfl (pc0 := 47) (pc' := 89) rfl (hb hby d1_47) rfl (own_lcT (cd := .le) c47) (by decide) (by decide) k) ?_
    refine own_go (mkF m 90 #[.val (.ref a), .val (.long q1), .second, .val (.long q2), .second, .val (.long (0 : Int64)), .second] [(.ref a)]) (fun t k => XS.aloadN X1.here hx rfl (hb hby d1_89) rfl rfl k) ?_
    refine own_go (mkF m 91 #[.val (.ref a), .val (.long q1), .second, .val (.long q2), .second, .val (.long (0 : Int64)), .second] [(.long q1), (.ref a)]) (fun t k => XS.lloadN X1.here hx rfl (hb hby d1_90) rfl k) ?_
    obtain ⟨T91, h91, X91, e91, W91, st91⟩ := putF X1 hx hZ hown (host := "") (Or.inl (hw _ (List.mem_of_getElem? (i := 15) rfl))) Via.refl e1 F_capacity_a E_a (Or.inr ⟨(hw _ (List.mem_of_getElem? (i := 16) rfl)), rfl, hnm⟩) (hw _ (List.mem_of_getElem? (i := 2) rfl)) (ty := .long) (by decide) rfl rfl (g := (mkF m 91 #[.val (.ref a), .val (.long q1), .second, .val (.long q2), .second, .val (.long (0 : Int64)), .second] [(.long q1), (.ref a)])) rfl rfl (hb hby d1_91)
    have N91 := Fr.snoc X91 N1 g_a
    have E_a_91 := E_a.wr W91
    have K0_91 := K0.wr W91 (Or.inl (List.mem_cons_self ..))
    have F_capacity_a_91 := F_capacity_a.same W91
    have F_resumeMark_a_91 := F_resumeMark_a.other W91 (Or.inr (slot_ne (Or.inr (hw _ (List.mem_of_getElem? (i := 18) rfl))) (Or.inr (hw _ (List.mem_of_getElem? (i := 16) rfl))) (by decide) (t := .long) (t' := .long) (by decide) (by decide)))
    have Z0_91 : n0 ≤ h91.size := by rw [W91.size]; exact Z0
    refine own_go (T' := T91) (mkF m 94 #[.val (.ref a), .val (.long q1), .second, .val (.long q2), .second, .val (.long (0 : Int64)), .second] []) st91 ?_
    refine own_go (mkF m 95 #[.val (.ref a), .val (.long q1), .second, .val (.long q2), .second, .val (.long (0 : Int64)), .second] [(.ref a)]) (fun t k => XS.aloadN X91.here hx rfl (hb hby d1_94) rfl rfl k) ?_
    refine own_go (mkF m 96 #[.val (.ref a), .val (.long q1), .second, .val (.long q2), .second, .val (.long (0 : Int64)), .second] [(.long q2), (.ref a)]) (fun t k => XS.lloadN X91.here hx rfl (hb hby d1_95) rfl k) ?_
    obtain ⟨T96, h96, X96, e96, W96, st96⟩ := putF X91 hx hZ hown (host := "") (Or.inl (hw _ (List.mem_of_getElem? (i := 17) rfl))) Via.refl e91 F_resumeMark_a_91 E_a_91 (Or.inr ⟨(hw _ (List.mem_of_getElem? (i := 18) rfl)), rfl, hnm⟩) (hw _ (List.mem_of_getElem? (i := 2) rfl)) (ty := .long) (by decide) rfl rfl (g := (mkF m 96 #[.val (.ref a), .val (.long q1), .second, .val (.long q2), .second, .val (.long (0 : Int64)), .second] [(.long q2), (.ref a)])) rfl rfl (hb hby d1_96)
    have N96 := Fr.snoc X96 N91 g_a
    have E_a_96 := E_a_91.wr W96
    have K0_96 := K0_91.wr W96 (Or.inl (List.mem_cons_self ..))
    have F_capacity_a_96 := F_capacity_a_91.other W96 (Or.inr (slot_ne (Or.inr (hw _ (List.mem_of_getElem? (i := 16) rfl))) (Or.inr (hw _ (List.mem_of_getElem? (i := 18) rfl))) (by decide) (t := .long) (t' := .long) (by decide) (by decide)))
    have F_resumeMark_a_96 := F_resumeMark_a_91.same W96
    have Z0_96 : n0 ≤ h96.size := by rw [W96.size]; exact Z0_91
    refine own_go (T' := T96) (mkF m 99 #[.val (.ref a), .val (.long q1), .second, .val (.long q2), .second, .val (.long (0 : Int64)), .second] []) st96 ?_
    refine own_ret0 X96 hx hlk hret (hb hby d1_99) (by decide) (by decide) ?_
    rw [e96]
    exact ⟨rfl, N96, K0_96, E_a_96, F_capacity_a_96, F_resumeMark_a_96⟩
  · skip
    refine own_go (mkF m 34 #[.val (.ref a), .val (.long q1), .second, .val (.long q2), .second, .unset, .unset] []) (fun t k => XS.ifYes X1.here hx rfl (pc0 := 27) (pc' := 34) rfl (hb hby d1_27) rfl (own_lcT (cd := .ne) c27) (by decide) (by decide) k) ?_
    refine own_go (mkF m 35 #[.val (.ref a), .val (.long q1), .second, .val (.long q2), .second, .unset, .unset] [(.long (1 : Int64))]) (fun t k => XS.lconst X1.here hx rfl (hb hby d1_34) k) ?_
    refine own_go (mkF m 37 #[.val (.ref a), .val (.long q1), .second, .val (.long q2), .second, .val (.long (1 : Int64)), .second] []) (fun t k => XS.lstore X1.here hx rfl (hb hby d1_35) rfl (l' := #[.val (.ref a), .val (.long q1), .second, .val (.long q2), .second, .val (.long (1 : Int64)), .second]) rfl k) ?_
    refine own_go (mkF m 38 #[.val (.ref a), .val (.long q1), .second, .val (.long q2), .second, .val (.long (1 : Int64)), .second] [(.long q2)]) (fun t k => XS.lloadN X1.here hx rfl (hb hby d1_37) rfl k) ?_
    refine own_go (mkF m 40 #[.val (.ref a), .val (.long q1), .second, .val (.long q2), .second, .val (.long (1 : Int64)), .second] [(.long (1 : Int64)), (.long q2)]) (fun t k => XS.lload X1.here hx rfl (hb hby d1_38) rfl k) ?_
    refine own_go (mkF m 41 #[.val (.ref a), .val (.long q1), .second, .val (.long q2), .second, .val (.long (1 : Int64)), .second] [(.int (lcmpW q2 (1 : Int64)))]) (fun t k => XS.lcmp X1.here hx rfl (hb hby d1_40) rfl k) ?_
    have c41 : ¬ (q2.toInt < 1) := by omega
    refine own_go (mkF m 44 #[.val (.ref a), .val (.long q1), .second, .val (.long q2), .second, .val (.long (1 : Int64)), .second] []) (fun t k => XS.ifNo X1.here hx rfl (hb hby d1_41) rfl (own_lcF (cd := .lt) c41) k) ?_
    refine own_go (mkF m 45 #[.val (.ref a), .val (.long q1), .second, .val (.long q2), .second, .val (.long (1 : Int64)), .second] [(.long q2)]) (fun t k => XS.lloadN X1.here hx rfl (hb hby d1_44) rfl k) ?_
    refine own_go (mkF m 46 #[.val (.ref a), .val (.long q1), .second, .val (.long q2), .second, .val (.long (1 : Int64)), .second] [(.long q1), (.long q2)]) (fun t k => XS.lloadN X1.here hx rfl (hb hby d1_45) rfl k) ?_
    refine own_go (mkF m 47 #[.val (.ref a), .val (.long q1), .second, .val (.long q2), .second, .val (.long (1 : Int64)), .second] [(.int (lcmpW q2 q1))]) (fun t k => XS.lcmp X1.here hx rfl (hb hby d1_46) rfl k) ?_
    have c47 : q2.toInt ≤ q1.toInt := by omega
    refine own_go (mkF m 89 #[.val (.ref a), .val (.long q1), .second, .val (.long q2), .second, .val (.long (1 : Int64)), .second] []) (fun t k => XS.ifYes X1.here hx rfl (pc0 := 47) (pc' := 89) rfl (hb hby d1_47) rfl (own_lcT (cd := .le) c47) (by decide) (by decide) k) ?_
    refine own_go (mkF m 90 #[.val (.ref a), .val (.long q1), .second, .val (.long q2), .second, .val (.long (1 : Int64)), .second] [(.ref a)]) (fun t k => XS.aloadN X1.here hx rfl (hb hby d1_89) rfl rfl k) ?_
    refine own_go (mkF m 91 #[.val (.ref a), .val (.long q1), .second, .val (.long q2), .second, .val (.long (1 : Int64)), .second] [(.long q1), (.ref a)]) (fun t k => XS.lloadN X1.here hx rfl (hb hby d1_90) rfl k) ?_
    obtain ⟨T91, h91, X91, e91, W91, st91⟩ := putF X1 hx hZ hown (host := "") (Or.inl (hw _ (List.mem_of_getElem? (i := 15) rfl))) Via.refl e1 F_capacity_a E_a (Or.inr ⟨(hw _ (List.mem_of_getElem? (i := 16) rfl)), rfl, hnm⟩) (hw _ (List.mem_of_getElem? (i := 2) rfl)) (ty := .long) (by decide) rfl rfl (g := (mkF m 91 #[.val (.ref a), .val (.long q1), .second, .val (.long q2), .second, .val (.long (1 : Int64)), .second] [(.long q1), (.ref a)])) rfl rfl (hb hby d1_91)
    have N91 := Fr.snoc X91 N1 g_a
    have E_a_91 := E_a.wr W91
    have K0_91 := K0.wr W91 (Or.inl (List.mem_cons_self ..))
    have F_capacity_a_91 := F_capacity_a.same W91
    have F_resumeMark_a_91 := F_resumeMark_a.other W91 (Or.inr (slot_ne (Or.inr (hw _ (List.mem_of_getElem? (i := 18) rfl))) (Or.inr (hw _ (List.mem_of_getElem? (i := 16) rfl))) (by decide) (t := .long) (t' := .long) (by decide) (by decide)))
    have Z0_91 : n0 ≤ h91.size := by rw [W91.size]; exact Z0
    refine own_go (T' := T91) (mkF m 94 #[.val (.ref a), .val (.long q1), .second, .val (.long q2), .second, .val (.long (1 : Int64)), .second] []) st91 ?_
    refine own_go (mkF m 95 #[.val (.ref a), .val (.long q1), .second, .val (.long q2), .second, .val (.long (1 : Int64)), .second] [(.ref a)]) (fun t k => XS.aloadN X91.here hx rfl (hb hby d1_94) rfl rfl k) ?_
    refine own_go (mkF m 96 #[.val (.ref a), .val (.long q1), .second, .val (.long q2), .second, .val (.long (1 : Int64)), .second] [(.long q2), (.ref a)]) (fun t k => XS.lloadN X91.here hx rfl (hb hby d1_95) rfl k) ?_
    obtain ⟨T96, h96, X96, e96, W96, st96⟩ := putF X91 hx hZ hown (host := "") (Or.inl (hw _ (List.mem_of_getElem? (i := 17) rfl))) Via.refl e91 F_resumeMark_a_91 E_a_91 (Or.inr ⟨(hw _ (List.mem_of_getElem? (i := 18) rfl)), rfl, hnm⟩) (hw _ (List.mem_of_getElem? (i := 2) rfl)) (ty := .long) (by decide) rfl rfl (g := (mkF m 96 #[.val (.ref a), .val (.long q1), .second, .val (.long q2), .second, .val (.long (1 : Int64)), .second] [(.long q2), (.ref a)])) rfl rfl (hb hby d1_96)
    have N96 := Fr.snoc X96 N91 g_a
    have E_a_96 := E_a_91.wr W96
    have K0_96 := K0_91.wr W96 (Or.inl (List.mem_cons_self ..))
    have F_capacity_a_96 := F_capacity_a_91.other W96 (Or.inr (slot_ne (Or.inr (hw _ (List.mem_of_getElem? (i := 16) rfl))) (Or.inr (hw _ (List.mem_of_getElem? (i := 18) rfl))) (by decide) (t := .long) (t' := .long) (by decide) (by decide)))
    have F_resumeMark_a_96 := F_resumeMark_a_91.same W96
    have Z0_96 : n0 ≤ h96.size := by rw [W96.size]; exact Z0_91
    refine own_go (T' := T96) (mkF m 99 #[.val (.ref a), .val (.long q1), .second, .val (.long q2), .second, .val (.long (1 : Int64)), .second] []) st96 ?_
    refine own_ret0 X96 hx hlk hret (hb hby d1_99) (by decide) (by decide) ?_
    rw [e96]
    exact ⟨rfl, N96, K0_96, E_a_96, F_capacity_a_96, F_resumeMark_a_96⟩
theorem d2_0 : decode prog_1_method_3_code 0 = .ok (.aload_n 0, 1) := by decide +kernel
theorem d2_1 : decode prog_1_method_3_code 1 = .ok (.getfield 32, 3) := by decide +kernel
theorem d2_4 : decode prog_1_method_3_code 4 = .ok (.lconst 0, 1) := by decide +kernel
theorem d2_5 : decode prog_1_method_3_code 5 = .ok (.lcmp, 1) := by decide +kernel
theorem d2_6 : decode prog_1_method_3_code 6 = .ok (.ifCond .ne 7, 3) := by decide +kernel
theorem d2_9 : decode prog_1_method_3_code 9 = .ok (.iconst 1, 1) := by decide +kernel
theorem d2_10 : decode prog_1_method_3_code 10 = .ok (.goto 4, 3) := by decide +kernel
theorem d2_13 : decode prog_1_method_3_code 13 = .ok (.iconst 0, 1) := by decide +kernel
theorem d2_14 : decode prog_1_method_3_code 14 = .ok (.ireturn, 1) := by decide +kernel
theorem pf2 : plainFor (⟨"com/example/libsluice/libsluice/ByteLimit", "isUnlimited", "()Z"⟩ : MethodName) = true := by decide +kernel
theorem ef2 (m : MethodId) (a : Addr) : entryFrame m #[(.ref a)] 1 = (mkF m 0 #[.val (.ref a)] []) := by first | rfl | (simp [entryFrame, mkF, argsToLocals, Value.category, maxLocals]; done)
def Q2 (Z : State) (a : Addr) (w1 : Int64) (h0 : Heap) (n0 : Nat) (v : Option Value) (h : Heap) (L : List Loc) : Prop := (∃ r : Int32, v = some (.int r) ∧ (r.toInt = 1 ∧ w1.toInt = 0 ∨ r.toInt = 0 ∧ ¬ w1.toInt = 0)) ∧ Fr n0 L ∧ h = h0
set_option maxRecDepth 65536 in
set_option maxHeartbeats 40000000 in
theorem rm2 (l : Launch) (Z : State) (a0 : Array Value) (hw : ∀ d ∈ tables_1, d.before a0 Z = true) (ws : List Jvm.Cond) (a : Addr) (w1 : Int64) (h0 : Heap) (n0 : Nat) (Z0 : n0 ≤ h0.size) (F_capacity_a : Fld Z h0 a "com/example/libsluice/libsluice/ByteLimit" "capacity" "J" (.long w1)) :
    MetFree l (⟨"com/example/libsluice/libsluice/ByteLimit", "isUnlimited", "()Z"⟩ : MethodName) (head1 (Jvm.Cond.code (⟨"com/example/libsluice/libsluice/ByteLimit", "isUnlimited", "()Z"⟩ : MethodName) prog_1_method_3_code 1 (some Jvm.ClassFile.FieldType.boolean) :: ws) ({ frames := 0, cells := 0, slots := 0, locals := 0 } : Room)) (fun aa U => aa = #[(.ref a)] ∧ Z.Warmed39 U.vm ∧ U.heap = h0) (fun _ _ _ _ _ => True) (fun _ U o U' => ∃ v L, o = .returned v ∧ Q2 Z a w1 h0 n0 v U'.heap L ∧ FrameEnd U o U' L ({ frames := 0, cells := 0, slots := 0, locals := 0 } : Room).cells ({ frames := 0, cells := 0, slots := 0, locals := 0 } : Room).slots) := by
  refine own_met pf2 ?_
  intro p e s m below meth c T0 hx hby hml hown hret hlk hnm hZ X0 e0
  have N0 := Fr.nil n0
  rw [ef2]
  refine own_go (mkF m 1 #[.val (.ref a)] [(.ref a)]) (fun t k => XS.aloadN X0.here hx rfl (hb hby d2_0) rfl rfl k) ?_
  obtain ⟨T1, X1, e1, st1⟩ := getF X0 hx hZ hown (host := "") (Or.inl (hw _ (List.mem_of_getElem? (i := 15) rfl))) Via.refl e0 F_capacity_a (g := (mkF m 1 #[.val (.ref a)] [(.ref a)])) rfl rfl (hb hby d2_1)
  refine own_go (T' := T1) (mkF m 4 #[.val (.ref a)] [(.long w1)]) st1 ?_
  refine own_go (mkF m 5 #[.val (.ref a)] [(.long (0 : Int64)), (.long w1)]) (fun t k => XS.lconst X1.here hx rfl (hb hby d2_4) k) ?_
  refine own_go (mkF m 6 #[.val (.ref a)] [(.int (lcmpW w1 (0 : Int64)))]) (fun t k => XS.lcmp X1.here hx rfl (hb hby d2_5) rfl k) ?_
  by_cases c6 : w1.toInt = 0
  · skip
    refine own_go (mkF m 9 #[.val (.ref a)] []) (fun t k => XS.ifNo X1.here hx rfl (hb hby d2_6) rfl (own_lcF (cd := .ne) (fun q => q c6)) k) ?_
    refine own_go (mkF m 10 #[.val (.ref a)] [(.int (1 : Int32))]) (fun t k => XS.iconst X1.here hx rfl (hb hby d2_9) k) ?_
    refine own_go (mkF m 14 #[.val (.ref a)] [(.int (1 : Int32))]) (fun t k => XS.goto X1.here hx rfl (pc0 := 10) (pc' := 14) rfl (hb hby d2_10) (by decide) (by decide) k) ?_
    refine own_retI X1 hx hlk hret (by simp) rfl (hb hby d2_14) (by decide) (by decide) ?_
    rw [e1]
    exact ⟨⟨_, rfl, Or.inl ⟨rfl, c6⟩⟩, N0, rfl⟩
  · skip
    refine own_go (mkF m 13 #[.val (.ref a)] []) (fun t k => XS.ifYes X1.here hx rfl (pc0 := 6) (pc' := 13) rfl (hb hby d2_6) rfl (own_lcT (cd := .ne) c6) (by decide) (by decide) k) ?_
    refine own_go (mkF m 14 #[.val (.ref a)] [(.int (0 : Int32))]) (fun t k => XS.iconst X1.here hx rfl (hb hby d2_13) k) ?_
    refine own_retI X1 hx hlk hret (by simp) rfl (hb hby d2_14) (by decide) (by decide) ?_
    rw [e1]
    exact ⟨⟨_, rfl, Or.inr ⟨rfl, c6⟩⟩, N0, rfl⟩
theorem pd0_0 : parseMethodDescriptor "(JJ)V" = some ⟨[.long, .long], none⟩ := by decide +kernel
theorem pd0_1 : parseMethodDescriptor "()Z" = some ⟨[], some .boolean⟩ := by decide +kernel
theorem pf0 : plainFor (⟨"com/example/libsluice/libsluice/ByteLimitIsUnlimitedPinLaw", "law", "(JJI)Z"⟩ : MethodName) = true := by decide +kernel
theorem ef0 (m : MethodId) (q1 : Int64) (q2 : Int64) (q3 : Int32) : entryFrame m #[(.long q1), (.long q2), (.int q3)] maxLocals = (mkF m 0 #[.val (.long q1), .second, .val (.long q2), .second, .val (.int q3), .unset, .unset, .unset, .unset, .unset] []) := by first | rfl | (simp [entryFrame, mkF, argsToLocals, Value.category, maxLocals]; done)
def Q0 (Z : State) (q1 : Int64) (q2 : Int64) (q3 : Int32) (h0 : Heap) (n0 : Nat) (v : Option Value) (h : Heap) (L : List Loc) : Prop := v = some (.int 1) ∧ Fr n0 L
set_option maxRecDepth 65536 in
set_option maxHeartbeats 40000000 in
theorem rm0 (l : Launch) (Z : State) (a0 : Array Value) (hw : ∀ d ∈ tables_1, d.before a0 Z = true) (ws : List Jvm.Cond) (q1 : Int64) (q2 : Int64) (q3 : Int32) (h0 : Heap) (n0 : Nat) (Z0 : n0 ≤ h0.size) :
    MetFree l x (head1 (Jvm.Cond.code x code maxLocals ret :: ws) room_1) (fun aa U => aa = #[(.long q1), (.long q2), (.int q3)] ∧ Z.Warmed39 U.vm ∧ U.heap = h0) (fun _ _ _ _ _ => True) (fun _ U o U' => ∃ v L, o = .returned v ∧ Q0 Z q1 q2 q3 h0 n0 v U'.heap L ∧ FrameEnd U o U' L room_1.cells room_1.slots) := by
  refine own_met pf0 ?_
  intro p e s m below meth c T0 hx hby hml hown hret hlk hnm hZ X0 e0
  have N0 := Fr.nil n0
  have r_q1 := rng64 q1
  have r_q2 := rng64 q2
  have r_q3 := rng32 q3
  rw [ef0]
  refine own_go (mkF m 2 #[.val (.long q1), .second, .val (.long q2), .second, .val (.int q3), .unset, .unset, .unset, .unset, .unset] [(.int q3)]) (fun t k => XS.iload X0.here hx rfl (hb hby at_0) rfl k) ?_
  refine own_go (mkF m 3 #[.val (.long q1), .second, .val (.long q2), .second, .val (.int q3), .unset, .unset, .unset, .unset, .unset] [(.int (1 : Int32)), (.int q3)]) (fun t k => XS.iconst X0.here hx rfl (hb hby at_2) k) ?_
  refine own_go (mkF m 4 #[.val (.long q1), .second, .val (.long q2), .second, .val (.int q3), .unset, .unset, .unset, .unset, .unset] [(.int (q3 &&& (1 : Int32)))]) (fun t k => XS.iand X0.here hx rfl (hb hby at_3) rfl k) ?_
  generalize hv3 : (q3 &&& (1 : Int32)) = v3
  have f3 : v3.toInt = q3.toInt % 2 := by rw [← hv3]; exact c_mask q3 (1 : Int32) 1 (by decide) (by decide)
  have r3 := rng32 v3
  by_cases c4 : v3.toInt = 0
  · skip
    refine own_go (mkF m 11 #[.val (.long q1), .second, .val (.long q2), .second, .val (.int q3), .unset, .unset, .unset, .unset, .unset] []) (fun t k => XS.ifYes X0.here hx rfl (pc0 := 4) (pc' := 11) rfl (hb hby at_4) rfl (own_zT (cd := .eq) c4) (by decide) (by decide) k) ?_
    refine own_go (mkF m 12 #[.val (.long q1), .second, .val (.long q2), .second, .val (.int q3), .unset, .unset, .unset, .unset, .unset] [(.long q1)]) (fun t k => XS.lloadN X0.here hx rfl (hb hby at_11) rfl k) ?_
    refine own_go (mkF m 15 #[.val (.long q1), .second, .val (.long q2), .second, .val (.int q3), .unset, .unset, .unset, .unset, .unset] [(.long (9223372036854775807 : Int64)), (.long q1)]) (fun t k => X0.ldc2Long hx hown (mvT hZ (hw _ (List.mem_of_getElem? (i := 0) rfl))) (g := (mkF m 12 #[.val (.long q1), .second, .val (.long q2), .second, .val (.int q3), .unset, .unset, .unset, .unset, .unset] [(.long q1)])) rfl (hb hby at_12) _ k) ?_
    refine own_go (mkF m 16 #[.val (.long q1), .second, .val (.long q2), .second, .val (.int q3), .unset, .unset, .unset, .unset, .unset] [(.long (q1 &&& (9223372036854775807 : Int64)))]) (fun t k => XS.land X0.here hx rfl (hb hby at_15) rfl k) ?_
    generalize hv15 : (q1 &&& (9223372036854775807 : Int64)) = v15
    have f15 : v15.toInt = q1.toInt % 9223372036854775808 := by rw [← hv15]; exact c_maskL q1 (9223372036854775807 : Int64) 63 (by decide) (by decide)
    have r15 := rng64 v15
    refine own_go (mkF m 18 #[.val (.long q1), .second, .val (.long q2), .second, .val (.int q3), .val (.long v15), .second, .unset, .unset, .unset] []) (fun t k => XS.lstore X0.here hx rfl (hb hby at_16) rfl (l' := #[.val (.long q1), .second, .val (.long q2), .second, .val (.int q3), .val (.long v15), .second, .unset, .unset, .unset]) rfl k) ?_
    refine own_go (mkF m 20 #[.val (.long q1), .second, .val (.long q2), .second, .val (.int q3), .val (.long v15), .second, .unset, .unset, .unset] [(.long v15)]) (fun t k => XS.lload X0.here hx rfl (hb hby at_18) rfl k) ?_
    refine own_go (mkF m 21 #[.val (.long q1), .second, .val (.long q2), .second, .val (.int q3), .val (.long v15), .second, .unset, .unset, .unset] [(.long (0 : Int64)), (.long v15)]) (fun t k => XS.lconst X0.here hx rfl (hb hby at_20) k) ?_
    refine own_go (mkF m 22 #[.val (.long q1), .second, .val (.long q2), .second, .val (.int q3), .val (.long v15), .second, .unset, .unset, .unset] [(.int (lcmpW v15 (0 : Int64)))]) (fun t k => XS.lcmp X0.here hx rfl (hb hby at_21) rfl k) ?_
    by_cases c22 : v15.toInt = 0
    · skip
      refine own_go (mkF m 25 #[.val (.long q1), .second, .val (.long q2), .second, .val (.int q3), .val (.long v15), .second, .unset, .unset, .unset] []) (fun t k => XS.ifNo X0.here hx rfl (hb hby at_22) rfl (own_lcF (cd := .ne) (fun q => q c22)) k) ?_
      refine own_go (mkF m 26 #[.val (.long q1), .second, .val (.long q2), .second, .val (.int q3), .val (.long v15), .second, .unset, .unset, .unset] [(.long (0 : Int64))]) (fun t k => XS.lconst X0.here hx rfl (hb hby at_25) k) ?_
      refine own_go (mkF m 39 #[.val (.long q1), .second, .val (.long q2), .second, .val (.int q3), .val (.long v15), .second, .unset, .unset, .unset] [(.long (0 : Int64))]) (fun t k => XS.goto X0.here hx rfl (pc0 := 26) (pc' := 39) rfl (hb hby at_26) (by decide) (by decide) k) ?_
      refine own_go (mkF m 41 #[.val (.long q1), .second, .val (.long q2), .second, .val (.int q3), .val (.long v15), .second, .val (.long (0 : Int64)), .second, .unset] []) (fun t k => XS.lstore X0.here hx rfl (hb hby at_39) rfl (l' := #[.val (.long q1), .second, .val (.long q2), .second, .val (.int q3), .val (.long v15), .second, .val (.long (0 : Int64)), .second, .unset]) rfl k) ?_
      obtain ⟨T41, h41, X41, e41, E41, A41, D41, -, st41⟩ := newO X0 hx hZ hown (hw _ (List.mem_of_getElem? (i := 1) rfl)) (hw _ (List.mem_of_getElem? (i := 2) rfl)) (hw _ (List.mem_of_getElem? (i := 3) rfl)) e0 (g := (mkF m 41 #[.val (.long q1), .second, .val (.long q2), .second, .val (.int q3), .val (.long v15), .second, .val (.long (0 : Int64)), .second, .unset] [])) rfl (hb hby at_41) (by decide) (by decide)
      obtain ⟨b41, g41⟩ : ∃ z, z = h0.size := ⟨_, rfl⟩
      rw [← g41] at A41 D41 st41
      have gb41 : n0 ≤ b41 := Nat.le_trans Z0 (Nat.le_of_eq g41.symm)
      have Z0_41 : n0 ≤ h41.size := Nat.le_trans Z0 E41.1
      have F_capacity_b41 : Fld Z h41 b41 "com/example/libsluice/libsluice/ByteLimit" "capacity" "J" (.long (0 : Int64)) := D41 (Or.inr (hw _ (List.mem_of_getElem? (i := 16) rfl))) (ty := .long) (by decide)
      have F_resumeMark_b41 : Fld Z h41 b41 "com/example/libsluice/libsluice/ByteLimit" "resumeMark" "J" (.long (0 : Int64)) := D41 (Or.inr (hw _ (List.mem_of_getElem? (i := 18) rfl))) (ty := .long) (by decide)
      refine own_go (T' := T41) (mkF m 44 #[.val (.long q1), .second, .val (.long q2), .second, .val (.int q3), .val (.long v15), .second, .val (.long (0 : Int64)), .second, .unset] [(.ref b41)]) st41 ?_
      refine own_go (mkF m 45 #[.val (.long q1), .second, .val (.long q2), .second, .val (.int q3), .val (.long v15), .second, .val (.long (0 : Int64)), .second, .unset] [(.ref b41), (.ref b41)]) (fun t k => XS.dup X41.here hx rfl (hb hby at_44) rfl rfl k) ?_
      refine own_go (mkF m 47 #[.val (.long q1), .second, .val (.long q2), .second, .val (.int q3), .val (.long v15), .second, .val (.long (0 : Int64)), .second, .unset] [(.long v15), (.ref b41), (.ref b41)]) (fun t k => XS.lload X41.here hx rfl (hb hby at_45) rfl k) ?_
      refine own_go (mkF m 49 #[.val (.long q1), .second, .val (.long q2), .second, .val (.int q3), .val (.long v15), .second, .val (.long (0 : Int64)), .second, .unset] [(.long (0 : Int64)), (.long v15), (.ref b41), (.ref b41)]) (fun t k => XS.lload X41.here hx rfl (hb hby at_47) rfl k) ?_
      have lt49_1 : (0 : Int64).toInt = 0 := rfl
      refine own_callI X41 hx hZ (y := (⟨"com/example/libsluice/libsluice/ByteLimit", "<init>", "(JJ)V"⟩ : MethodName)) hown rfl (hw _ (List.mem_of_getElem? (i := 4) rfl)) (hw _ (List.mem_of_getElem? (i := 5) rfl)) (hw _ (List.mem_of_getElem? (i := 3) rfl)) (hw _ (List.mem_of_getElem? (i := 6) rfl)) (by decide) e41 (rm1 l Z a0 hw [] b41 v15 (0 : Int64) h41 n0 Z0_41 A41 F_capacity_b41 F_resumeMark_b41 gb41 (by omega)) 1 (by decide) (by decide) (by decide) (by decide) (g := (mkF m 49 #[.val (.long q1), .second, .val (.long q2), .second, .val (.int q3), .val (.long v15), .second, .val (.long (0 : Int64)), .second, .unset] [(.long (0 : Int64)), (.long v15), (.ref b41), (.ref b41)])) rfl (by rw [hml]; rfl) b41 [(.long v15), (.long (0 : Int64))] [(.ref b41)] (lenOf pd0_0 rfl) rfl rfl (by show 2 * 0 + _ ≤ _; exact Nat.le_of_eq rfl) (hb hby at_49) ?_
      intro rv49 T49 h49 L49 X49 e49 hQ49
      obtain ⟨rfl, NQ49, KQ49, EQ49, F_capacity_b41_49, F_resumeMark_b41_49⟩ := hQ49
      have Z0_49 : n0 ≤ h49.size := Nat.le_trans Z0_41 KQ49.1
      have A41_49 := A41.keep KQ49
      have N49 := Fr.app N0 NQ49
      show own_Ends p e below s room_1.cells room_1.slots (Q0 Z q1 q2 q3 h0 n0) T49 (mkF m 52 #[.val (.long q1), .second, .val (.long q2), .second, .val (.int q3), .val (.long v15), .second, .val (.long (0 : Int64)), .second, .unset] [(.ref b41)])
      refine own_go (mkF m 54 #[.val (.long q1), .second, .val (.long q2), .second, .val (.int q3), .val (.long v15), .second, .val (.long (0 : Int64)), .second, .val (.ref b41)] []) (fun t k => XS.astore X49.here hx rfl (hb hby at_52) rfl rfl (l' := #[.val (.long q1), .second, .val (.long q2), .second, .val (.int q3), .val (.long v15), .second, .val (.long (0 : Int64)), .second, .val (.ref b41)]) rfl k) ?_
      refine own_go (mkF m 56 #[.val (.long q1), .second, .val (.long q2), .second, .val (.int q3), .val (.long v15), .second, .val (.long (0 : Int64)), .second, .val (.ref b41)] [(.ref b41)]) (fun t k => XS.aload X49.here hx rfl (hb hby at_54) rfl rfl k) ?_
      refine own_callV X49 hx hZ (y := (⟨"com/example/libsluice/libsluice/ByteLimit", "isUnlimited", "()Z"⟩ : MethodName)) hown (hw _ (List.mem_of_getElem? (i := 19) rfl)) (hw _ (List.mem_of_getElem? (i := 20) rfl)) (hw _ (List.mem_of_getElem? (i := 22) rfl)) (hw _ (List.mem_of_getElem? (i := 21) rfl)) (hw _ (List.mem_of_getElem? (i := 3) rfl)) (hw _ (List.mem_of_getElem? (i := 23) rfl)) (by decide) e49 b41 A41_49 (rm2 l Z a0 hw [] b41 v15 h49 n0 Z0_49 F_capacity_b41_49) 0 (by decide) (by decide) (by decide) (by decide) (g := (mkF m 56 #[.val (.long q1), .second, .val (.long q2), .second, .val (.int q3), .val (.long v15), .second, .val (.long (0 : Int64)), .second, .val (.ref b41)] [(.ref b41)])) rfl (by rw [hml]; rfl) [] [] (lenOf pd0_1 rfl) rfl rfl (by show 2 * 0 + _ ≤ _; exact Nat.le_of_eq rfl) (hb hby at_56) ?_
      intro rv56 T56 h56 L56 X56 e56 hQ56
      obtain ⟨⟨r56_, rfl, hr56⟩, NQ56, eq56⟩ := hQ56
      rw [eq56] at e56
      have rr56 := rng32 r56_
      have N56 := Fr.app N49 NQ56
      show own_Ends p e below s room_1.cells room_1.slots (Q0 Z q1 q2 q3 h0 n0) T56 (mkF m 59 #[.val (.long q1), .second, .val (.long q2), .second, .val (.int q3), .val (.long v15), .second, .val (.long (0 : Int64)), .second, .val (.ref b41)] [(.int r56_)])
      refine own_go (mkF m 61 #[.val (.long q1), .second, .val (.long q2), .second, .val (.int q3), .val (.long v15), .second, .val (.long (0 : Int64)), .second, .val (.ref b41)] [(.long v15), (.int r56_)]) (fun t k => XS.lload X56.here hx rfl (hb hby at_59) rfl k) ?_
      refine own_go (mkF m 62 #[.val (.long q1), .second, .val (.long q2), .second, .val (.int q3), .val (.long v15), .second, .val (.long (0 : Int64)), .second, .val (.ref b41)] [(.long (0 : Int64)), (.long v15), (.int r56_)]) (fun t k => XS.lconst X56.here hx rfl (hb hby at_61) k) ?_
      refine own_go (mkF m 63 #[.val (.long q1), .second, .val (.long q2), .second, .val (.int q3), .val (.long v15), .second, .val (.long (0 : Int64)), .second, .val (.ref b41)] [(.int (lcmpW v15 (0 : Int64))), (.int r56_)]) (fun t k => XS.lcmp X56.here hx rfl (hb hby at_62) rfl k) ?_
      by_cases c63 : v15.toInt = 0
      · skip
        refine own_go (mkF m 66 #[.val (.long q1), .second, .val (.long q2), .second, .val (.int q3), .val (.long v15), .second, .val (.long (0 : Int64)), .second, .val (.ref b41)] [(.int r56_)]) (fun t k => XS.ifNo X56.here hx rfl (hb hby at_63) rfl (own_lcF (cd := .ne) (fun q => q c63)) k) ?_
        refine own_go (mkF m 67 #[.val (.long q1), .second, .val (.long q2), .second, .val (.int q3), .val (.long v15), .second, .val (.long (0 : Int64)), .second, .val (.ref b41)] [(.int (1 : Int32)), (.int r56_)]) (fun t k => XS.iconst X56.here hx rfl (hb hby at_66) k) ?_
        refine own_go (mkF m 71 #[.val (.long q1), .second, .val (.long q2), .second, .val (.int q3), .val (.long v15), .second, .val (.long (0 : Int64)), .second, .val (.ref b41)] [(.int (1 : Int32)), (.int r56_)]) (fun t k => XS.goto X56.here hx rfl (pc0 := 67) (pc' := 71) rfl (hb hby at_67) (by decide) (by decide) k) ?_
        by_cases c71 : r56_.toInt = 1
        · skip
          refine own_go (mkF m 74 #[.val (.long q1), .second, .val (.long q2), .second, .val (.int q3), .val (.long v15), .second, .val (.long (0 : Int64)), .second, .val (.ref b41)] []) (fun t k => XS.icmpNo X56.here hx rfl (hb hby at_71) rfl (own_icF (cd := .ne) (fun q => q c71)) k) ?_
          refine own_go (mkF m 75 #[.val (.long q1), .second, .val (.long q2), .second, .val (.int q3), .val (.long v15), .second, .val (.long (0 : Int64)), .second, .val (.ref b41)] [(.int (1 : Int32))]) (fun t k => XS.iconst X56.here hx rfl (hb hby at_74) k) ?_
          refine own_go (mkF m 79 #[.val (.long q1), .second, .val (.long q2), .second, .val (.int q3), .val (.long v15), .second, .val (.long (0 : Int64)), .second, .val (.ref b41)] [(.int (1 : Int32))]) (fun t k => XS.goto X56.here hx rfl (pc0 := 75) (pc' := 79) rfl (hb hby at_75) (by decide) (by decide) k) ?_
          refine own_retI X56 hx hlk hret (by simp) rfl (hb hby at_79) (by decide) (by decide) ?_
          rw [e56]
          exact ⟨rfl, N56⟩
        · skip
          refine own_go (mkF m 78 #[.val (.long q1), .second, .val (.long q2), .second, .val (.int q3), .val (.long v15), .second, .val (.long (0 : Int64)), .second, .val (.ref b41)] []) (fun t k => XS.icmpYes X56.here hx rfl (pc0 := 71) (pc' := 78) rfl (hb hby at_71) rfl (own_icT (cd := .ne) c71) (by decide) (by decide) k) ?_
          refine own_go (mkF m 79 #[.val (.long q1), .second, .val (.long q2), .second, .val (.int q3), .val (.long v15), .second, .val (.long (0 : Int64)), .second, .val (.ref b41)] [(.int (0 : Int32))]) (fun t k => XS.iconst X56.here hx rfl (hb hby at_78) k) ?_
          refine own_retI X56 hx hlk hret (by simp) rfl (hb hby at_79) (by decide) (by decide) ?_
          rw [e56]
          exfalso
          omega
      · skip
        refine own_go (mkF m 70 #[.val (.long q1), .second, .val (.long q2), .second, .val (.int q3), .val (.long v15), .second, .val (.long (0 : Int64)), .second, .val (.ref b41)] [(.int r56_)]) (fun t k => XS.ifYes X56.here hx rfl (pc0 := 63) (pc' := 70) rfl (hb hby at_63) rfl (own_lcT (cd := .ne) c63) (by decide) (by decide) k) ?_
        refine own_go (mkF m 71 #[.val (.long q1), .second, .val (.long q2), .second, .val (.int q3), .val (.long v15), .second, .val (.long (0 : Int64)), .second, .val (.ref b41)] [(.int (0 : Int32)), (.int r56_)]) (fun t k => XS.iconst X56.here hx rfl (hb hby at_70) k) ?_
        by_cases c71 : r56_.toInt = 0
        · skip
          refine own_go (mkF m 74 #[.val (.long q1), .second, .val (.long q2), .second, .val (.int q3), .val (.long v15), .second, .val (.long (0 : Int64)), .second, .val (.ref b41)] []) (fun t k => XS.icmpNo X56.here hx rfl (hb hby at_71) rfl (own_icF (cd := .ne) (fun q => q c71)) k) ?_
          refine own_go (mkF m 75 #[.val (.long q1), .second, .val (.long q2), .second, .val (.int q3), .val (.long v15), .second, .val (.long (0 : Int64)), .second, .val (.ref b41)] [(.int (1 : Int32))]) (fun t k => XS.iconst X56.here hx rfl (hb hby at_74) k) ?_
          refine own_go (mkF m 79 #[.val (.long q1), .second, .val (.long q2), .second, .val (.int q3), .val (.long v15), .second, .val (.long (0 : Int64)), .second, .val (.ref b41)] [(.int (1 : Int32))]) (fun t k => XS.goto X56.here hx rfl (pc0 := 75) (pc' := 79) rfl (hb hby at_75) (by decide) (by decide) k) ?_
          refine own_retI X56 hx hlk hret (by simp) rfl (hb hby at_79) (by decide) (by decide) ?_
          rw [e56]
          exact ⟨rfl, N56⟩
        · skip
          refine own_go (mkF m 78 #[.val (.long q1), .second, .val (.long q2), .second, .val (.int q3), .val (.long v15), .second, .val (.long (0 : Int64)), .second, .val (.ref b41)] []) (fun t k => XS.icmpYes X56.here hx rfl (pc0 := 71) (pc' := 78) rfl (hb hby at_71) rfl (own_icT (cd := .ne) c71) (by decide) (by decide) k) ?_
          refine own_go (mkF m 79 #[.val (.long q1), .second, .val (.long q2), .second, .val (.int q3), .val (.long v15), .second, .val (.long (0 : Int64)), .second, .val (.ref b41)] [(.int (0 : Int32))]) (fun t k => XS.iconst X56.here hx rfl (hb hby at_78) k) ?_
          refine own_retI X56 hx hlk hret (by simp) rfl (hb hby at_79) (by decide) (by decide) ?_
          rw [e56]
          exfalso
          omega
    · skip
      refine own_go (mkF m 29 #[.val (.long q1), .second, .val (.long q2), .second, .val (.int q3), .val (.long v15), .second, .unset, .unset, .unset] []) (fun t k => XS.ifYes X0.here hx rfl (pc0 := 22) (pc' := 29) rfl (hb hby at_22) rfl (own_lcT (cd := .ne) c22) (by decide) (by decide) k) ?_
      refine own_go (mkF m 30 #[.val (.long q1), .second, .val (.long q2), .second, .val (.int q3), .val (.long v15), .second, .unset, .unset, .unset] [(.long (1 : Int64))]) (fun t k => XS.lconst X0.here hx rfl (hb hby at_29) k) ?_
      refine own_go (mkF m 31 #[.val (.long q1), .second, .val (.long q2), .second, .val (.int q3), .val (.long v15), .second, .unset, .unset, .unset] [(.long q2), (.long (1 : Int64))]) (fun t k => XS.lloadN X0.here hx rfl (hb hby at_30) rfl k) ?_
      refine own_go (mkF m 34 #[.val (.long q1), .second, .val (.long q2), .second, .val (.int q3), .val (.long v15), .second, .unset, .unset, .unset] [(.long (9223372036854775807 : Int64)), (.long q2), (.long (1 : Int64))]) (fun t k => X0.ldc2Long hx hown (mvT hZ (hw _ (List.mem_of_getElem? (i := 0) rfl))) (g := (mkF m 31 #[.val (.long q1), .second, .val (.long q2), .second, .val (.int q3), .val (.long v15), .second, .unset, .unset, .unset] [(.long q2), (.long (1 : Int64))])) rfl (hb hby at_31) _ k) ?_
      refine own_go (mkF m 35 #[.val (.long q1), .second, .val (.long q2), .second, .val (.int q3), .val (.long v15), .second, .unset, .unset, .unset] [(.long (q2 &&& (9223372036854775807 : Int64))), (.long (1 : Int64))]) (fun t k => XS.land X0.here hx rfl (hb hby at_34) rfl k) ?_
      generalize hv34 : (q2 &&& (9223372036854775807 : Int64)) = v34
      have f34 : v34.toInt = q2.toInt % 9223372036854775808 := by rw [← hv34]; exact c_maskL q2 (9223372036854775807 : Int64) 63 (by decide) (by decide)
      have r34 := rng64 v34
      refine own_go (mkF m 37 #[.val (.long q1), .second, .val (.long q2), .second, .val (.int q3), .val (.long v15), .second, .unset, .unset, .unset] [(.long v15), (.long v34), (.long (1 : Int64))]) (fun t k => XS.lload X0.here hx rfl (hb hby at_35) rfl k) ?_
      refine own_go (mkF m 38 #[.val (.long q1), .second, .val (.long q2), .second, .val (.int q3), .val (.long v15), .second, .unset, .unset, .unset] [(.long (v34 - (v34 / v15) * v15)), (.long (1 : Int64))]) (fun t k => XS.lrem X0.here hx rfl (hb hby at_37) rfl (own_nz64 (by omega)) k) ?_
      generalize hv37 : (v34 - (v34 / v15) * v15) = v37
      have f37 : 0 ≤ v34.toInt → 0 < v15.toInt → 0 ≤ v37.toInt ∧ v37.toInt < v15.toInt ∧ v37.toInt ≤ v34.toInt := by rw [← hv37]; exact own_lremV v34 v15
      have r37 := rng64 v37
      refine own_go (mkF m 39 #[.val (.long q1), .second, .val (.long q2), .second, .val (.int q3), .val (.long v15), .second, .unset, .unset, .unset] [(.long ((1 : Int64) + v37))]) (fun t k => XS.ladd X0.here hx rfl (hb hby at_38) rfl k) ?_
      generalize hv38 : ((1 : Int64) + v37) = v38
      have f38 : (v38.toInt - (1 + v37.toInt)) % 18446744073709551616 = 0 := by rw [← hv38]; exact c_ladd (1 : Int64) v37
      have r38 := rng64 v38
      refine own_go (mkF m 41 #[.val (.long q1), .second, .val (.long q2), .second, .val (.int q3), .val (.long v15), .second, .val (.long v38), .second, .unset] []) (fun t k => XS.lstore X0.here hx rfl (hb hby at_39) rfl (l' := #[.val (.long q1), .second, .val (.long q2), .second, .val (.int q3), .val (.long v15), .second, .val (.long v38), .second, .unset]) rfl k) ?_
      obtain ⟨T41, h41, X41, e41, E41, A41, D41, -, st41⟩ := newO X0 hx hZ hown (hw _ (List.mem_of_getElem? (i := 1) rfl)) (hw _ (List.mem_of_getElem? (i := 2) rfl)) (hw _ (List.mem_of_getElem? (i := 3) rfl)) e0 (g := (mkF m 41 #[.val (.long q1), .second, .val (.long q2), .second, .val (.int q3), .val (.long v15), .second, .val (.long v38), .second, .unset] [])) rfl (hb hby at_41) (by decide) (by decide)
      obtain ⟨b41, g41⟩ : ∃ z, z = h0.size := ⟨_, rfl⟩
      rw [← g41] at A41 D41 st41
      have gb41 : n0 ≤ b41 := Nat.le_trans Z0 (Nat.le_of_eq g41.symm)
      have Z0_41 : n0 ≤ h41.size := Nat.le_trans Z0 E41.1
      have F_capacity_b41 : Fld Z h41 b41 "com/example/libsluice/libsluice/ByteLimit" "capacity" "J" (.long (0 : Int64)) := D41 (Or.inr (hw _ (List.mem_of_getElem? (i := 16) rfl))) (ty := .long) (by decide)
      have F_resumeMark_b41 : Fld Z h41 b41 "com/example/libsluice/libsluice/ByteLimit" "resumeMark" "J" (.long (0 : Int64)) := D41 (Or.inr (hw _ (List.mem_of_getElem? (i := 18) rfl))) (ty := .long) (by decide)
      refine own_go (T' := T41) (mkF m 44 #[.val (.long q1), .second, .val (.long q2), .second, .val (.int q3), .val (.long v15), .second, .val (.long v38), .second, .unset] [(.ref b41)]) st41 ?_
      refine own_go (mkF m 45 #[.val (.long q1), .second, .val (.long q2), .second, .val (.int q3), .val (.long v15), .second, .val (.long v38), .second, .unset] [(.ref b41), (.ref b41)]) (fun t k => XS.dup X41.here hx rfl (hb hby at_44) rfl rfl k) ?_
      refine own_go (mkF m 47 #[.val (.long q1), .second, .val (.long q2), .second, .val (.int q3), .val (.long v15), .second, .val (.long v38), .second, .unset] [(.long v15), (.ref b41), (.ref b41)]) (fun t k => XS.lload X41.here hx rfl (hb hby at_45) rfl k) ?_
      refine own_go (mkF m 49 #[.val (.long q1), .second, .val (.long q2), .second, .val (.int q3), .val (.long v15), .second, .val (.long v38), .second, .unset] [(.long v38), (.long v15), (.ref b41), (.ref b41)]) (fun t k => XS.lload X41.here hx rfl (hb hby at_47) rfl k) ?_
      refine own_callI X41 hx hZ (y := (⟨"com/example/libsluice/libsluice/ByteLimit", "<init>", "(JJ)V"⟩ : MethodName)) hown rfl (hw _ (List.mem_of_getElem? (i := 4) rfl)) (hw _ (List.mem_of_getElem? (i := 5) rfl)) (hw _ (List.mem_of_getElem? (i := 3) rfl)) (hw _ (List.mem_of_getElem? (i := 6) rfl)) (by decide) e41 (rm1 l Z a0 hw [] b41 v15 v38 h41 n0 Z0_41 A41 F_capacity_b41 F_resumeMark_b41 gb41 (by omega)) 1 (by decide) (by decide) (by decide) (by decide) (g := (mkF m 49 #[.val (.long q1), .second, .val (.long q2), .second, .val (.int q3), .val (.long v15), .second, .val (.long v38), .second, .unset] [(.long v38), (.long v15), (.ref b41), (.ref b41)])) rfl (by rw [hml]; rfl) b41 [(.long v15), (.long v38)] [(.ref b41)] (lenOf pd0_0 rfl) rfl rfl (by show 2 * 0 + _ ≤ _; exact Nat.le_of_eq rfl) (hb hby at_49) ?_
      intro rv49 T49 h49 L49 X49 e49 hQ49
      obtain ⟨rfl, NQ49, KQ49, EQ49, F_capacity_b41_49, F_resumeMark_b41_49⟩ := hQ49
      have Z0_49 : n0 ≤ h49.size := Nat.le_trans Z0_41 KQ49.1
      have A41_49 := A41.keep KQ49
      have N49 := Fr.app N0 NQ49
      show own_Ends p e below s room_1.cells room_1.slots (Q0 Z q1 q2 q3 h0 n0) T49 (mkF m 52 #[.val (.long q1), .second, .val (.long q2), .second, .val (.int q3), .val (.long v15), .second, .val (.long v38), .second, .unset] [(.ref b41)])
      refine own_go (mkF m 54 #[.val (.long q1), .second, .val (.long q2), .second, .val (.int q3), .val (.long v15), .second, .val (.long v38), .second, .val (.ref b41)] []) (fun t k => XS.astore X49.here hx rfl (hb hby at_52) rfl rfl (l' := #[.val (.long q1), .second, .val (.long q2), .second, .val (.int q3), .val (.long v15), .second, .val (.long v38), .second, .val (.ref b41)]) rfl k) ?_
      refine own_go (mkF m 56 #[.val (.long q1), .second, .val (.long q2), .second, .val (.int q3), .val (.long v15), .second, .val (.long v38), .second, .val (.ref b41)] [(.ref b41)]) (fun t k => XS.aload X49.here hx rfl (hb hby at_54) rfl rfl k) ?_
      refine own_callV X49 hx hZ (y := (⟨"com/example/libsluice/libsluice/ByteLimit", "isUnlimited", "()Z"⟩ : MethodName)) hown (hw _ (List.mem_of_getElem? (i := 19) rfl)) (hw _ (List.mem_of_getElem? (i := 20) rfl)) (hw _ (List.mem_of_getElem? (i := 22) rfl)) (hw _ (List.mem_of_getElem? (i := 21) rfl)) (hw _ (List.mem_of_getElem? (i := 3) rfl)) (hw _ (List.mem_of_getElem? (i := 23) rfl)) (by decide) e49 b41 A41_49 (rm2 l Z a0 hw [] b41 v15 h49 n0 Z0_49 F_capacity_b41_49) 0 (by decide) (by decide) (by decide) (by decide) (g := (mkF m 56 #[.val (.long q1), .second, .val (.long q2), .second, .val (.int q3), .val (.long v15), .second, .val (.long v38), .second, .val (.ref b41)] [(.ref b41)])) rfl (by rw [hml]; rfl) [] [] (lenOf pd0_1 rfl) rfl rfl (by show 2 * 0 + _ ≤ _; exact Nat.le_of_eq rfl) (hb hby at_56) ?_
      intro rv56 T56 h56 L56 X56 e56 hQ56
      obtain ⟨⟨r56_, rfl, hr56⟩, NQ56, eq56⟩ := hQ56
      rw [eq56] at e56
      have rr56 := rng32 r56_
      have N56 := Fr.app N49 NQ56
      show own_Ends p e below s room_1.cells room_1.slots (Q0 Z q1 q2 q3 h0 n0) T56 (mkF m 59 #[.val (.long q1), .second, .val (.long q2), .second, .val (.int q3), .val (.long v15), .second, .val (.long v38), .second, .val (.ref b41)] [(.int r56_)])
      refine own_go (mkF m 61 #[.val (.long q1), .second, .val (.long q2), .second, .val (.int q3), .val (.long v15), .second, .val (.long v38), .second, .val (.ref b41)] [(.long v15), (.int r56_)]) (fun t k => XS.lload X56.here hx rfl (hb hby at_59) rfl k) ?_
      refine own_go (mkF m 62 #[.val (.long q1), .second, .val (.long q2), .second, .val (.int q3), .val (.long v15), .second, .val (.long v38), .second, .val (.ref b41)] [(.long (0 : Int64)), (.long v15), (.int r56_)]) (fun t k => XS.lconst X56.here hx rfl (hb hby at_61) k) ?_
      refine own_go (mkF m 63 #[.val (.long q1), .second, .val (.long q2), .second, .val (.int q3), .val (.long v15), .second, .val (.long v38), .second, .val (.ref b41)] [(.int (lcmpW v15 (0 : Int64))), (.int r56_)]) (fun t k => XS.lcmp X56.here hx rfl (hb hby at_62) rfl k) ?_
      by_cases c63 : v15.toInt = 0
      · skip
        refine own_go (mkF m 66 #[.val (.long q1), .second, .val (.long q2), .second, .val (.int q3), .val (.long v15), .second, .val (.long v38), .second, .val (.ref b41)] [(.int r56_)]) (fun t k => XS.ifNo X56.here hx rfl (hb hby at_63) rfl (own_lcF (cd := .ne) (fun q => q c63)) k) ?_
        refine own_go (mkF m 67 #[.val (.long q1), .second, .val (.long q2), .second, .val (.int q3), .val (.long v15), .second, .val (.long v38), .second, .val (.ref b41)] [(.int (1 : Int32)), (.int r56_)]) (fun t k => XS.iconst X56.here hx rfl (hb hby at_66) k) ?_
        refine own_go (mkF m 71 #[.val (.long q1), .second, .val (.long q2), .second, .val (.int q3), .val (.long v15), .second, .val (.long v38), .second, .val (.ref b41)] [(.int (1 : Int32)), (.int r56_)]) (fun t k => XS.goto X56.here hx rfl (pc0 := 67) (pc' := 71) rfl (hb hby at_67) (by decide) (by decide) k) ?_
        by_cases c71 : r56_.toInt = 1
        · skip
          refine own_go (mkF m 74 #[.val (.long q1), .second, .val (.long q2), .second, .val (.int q3), .val (.long v15), .second, .val (.long v38), .second, .val (.ref b41)] []) (fun t k => XS.icmpNo X56.here hx rfl (hb hby at_71) rfl (own_icF (cd := .ne) (fun q => q c71)) k) ?_
          refine own_go (mkF m 75 #[.val (.long q1), .second, .val (.long q2), .second, .val (.int q3), .val (.long v15), .second, .val (.long v38), .second, .val (.ref b41)] [(.int (1 : Int32))]) (fun t k => XS.iconst X56.here hx rfl (hb hby at_74) k) ?_
          refine own_go (mkF m 79 #[.val (.long q1), .second, .val (.long q2), .second, .val (.int q3), .val (.long v15), .second, .val (.long v38), .second, .val (.ref b41)] [(.int (1 : Int32))]) (fun t k => XS.goto X56.here hx rfl (pc0 := 75) (pc' := 79) rfl (hb hby at_75) (by decide) (by decide) k) ?_
          refine own_retI X56 hx hlk hret (by simp) rfl (hb hby at_79) (by decide) (by decide) ?_
          rw [e56]
          exact ⟨rfl, N56⟩
        · skip
          refine own_go (mkF m 78 #[.val (.long q1), .second, .val (.long q2), .second, .val (.int q3), .val (.long v15), .second, .val (.long v38), .second, .val (.ref b41)] []) (fun t k => XS.icmpYes X56.here hx rfl (pc0 := 71) (pc' := 78) rfl (hb hby at_71) rfl (own_icT (cd := .ne) c71) (by decide) (by decide) k) ?_
          refine own_go (mkF m 79 #[.val (.long q1), .second, .val (.long q2), .second, .val (.int q3), .val (.long v15), .second, .val (.long v38), .second, .val (.ref b41)] [(.int (0 : Int32))]) (fun t k => XS.iconst X56.here hx rfl (hb hby at_78) k) ?_
          refine own_retI X56 hx hlk hret (by simp) rfl (hb hby at_79) (by decide) (by decide) ?_
          rw [e56]
          exfalso
          omega
      · skip
        refine own_go (mkF m 70 #[.val (.long q1), .second, .val (.long q2), .second, .val (.int q3), .val (.long v15), .second, .val (.long v38), .second, .val (.ref b41)] [(.int r56_)]) (fun t k => XS.ifYes X56.here hx rfl (pc0 := 63) (pc' := 70) rfl (hb hby at_63) rfl (own_lcT (cd := .ne) c63) (by decide) (by decide) k) ?_
        refine own_go (mkF m 71 #[.val (.long q1), .second, .val (.long q2), .second, .val (.int q3), .val (.long v15), .second, .val (.long v38), .second, .val (.ref b41)] [(.int (0 : Int32)), (.int r56_)]) (fun t k => XS.iconst X56.here hx rfl (hb hby at_70) k) ?_
        by_cases c71 : r56_.toInt = 0
        · skip
          refine own_go (mkF m 74 #[.val (.long q1), .second, .val (.long q2), .second, .val (.int q3), .val (.long v15), .second, .val (.long v38), .second, .val (.ref b41)] []) (fun t k => XS.icmpNo X56.here hx rfl (hb hby at_71) rfl (own_icF (cd := .ne) (fun q => q c71)) k) ?_
          refine own_go (mkF m 75 #[.val (.long q1), .second, .val (.long q2), .second, .val (.int q3), .val (.long v15), .second, .val (.long v38), .second, .val (.ref b41)] [(.int (1 : Int32))]) (fun t k => XS.iconst X56.here hx rfl (hb hby at_74) k) ?_
          refine own_go (mkF m 79 #[.val (.long q1), .second, .val (.long q2), .second, .val (.int q3), .val (.long v15), .second, .val (.long v38), .second, .val (.ref b41)] [(.int (1 : Int32))]) (fun t k => XS.goto X56.here hx rfl (pc0 := 75) (pc' := 79) rfl (hb hby at_75) (by decide) (by decide) k) ?_
          refine own_retI X56 hx hlk hret (by simp) rfl (hb hby at_79) (by decide) (by decide) ?_
          rw [e56]
          exact ⟨rfl, N56⟩
        · skip
          refine own_go (mkF m 78 #[.val (.long q1), .second, .val (.long q2), .second, .val (.int q3), .val (.long v15), .second, .val (.long v38), .second, .val (.ref b41)] []) (fun t k => XS.icmpYes X56.here hx rfl (pc0 := 71) (pc' := 78) rfl (hb hby at_71) rfl (own_icT (cd := .ne) c71) (by decide) (by decide) k) ?_
          refine own_go (mkF m 79 #[.val (.long q1), .second, .val (.long q2), .second, .val (.int q3), .val (.long v15), .second, .val (.long v38), .second, .val (.ref b41)] [(.int (0 : Int32))]) (fun t k => XS.iconst X56.here hx rfl (hb hby at_78) k) ?_
          refine own_retI X56 hx hlk hret (by simp) rfl (hb hby at_79) (by decide) (by decide) ?_
          rw [e56]
          exfalso
          omega
  · skip
    refine own_go (mkF m 7 #[.val (.long q1), .second, .val (.long q2), .second, .val (.int q3), .unset, .unset, .unset, .unset, .unset] []) (fun t k => XS.ifNo X0.here hx rfl (hb hby at_4) rfl (own_zF (cd := .eq) c4) k) ?_
    refine own_go (mkF m 8 #[.val (.long q1), .second, .val (.long q2), .second, .val (.int q3), .unset, .unset, .unset, .unset, .unset] [(.long (0 : Int64))]) (fun t k => XS.lconst X0.here hx rfl (hb hby at_7) k) ?_
    refine own_go (mkF m 16 #[.val (.long q1), .second, .val (.long q2), .second, .val (.int q3), .unset, .unset, .unset, .unset, .unset] [(.long (0 : Int64))]) (fun t k => XS.goto X0.here hx rfl (pc0 := 8) (pc' := 16) rfl (hb hby at_8) (by decide) (by decide) k) ?_
    refine own_go (mkF m 18 #[.val (.long q1), .second, .val (.long q2), .second, .val (.int q3), .val (.long (0 : Int64)), .second, .unset, .unset, .unset] []) (fun t k => XS.lstore X0.here hx rfl (hb hby at_16) rfl (l' := #[.val (.long q1), .second, .val (.long q2), .second, .val (.int q3), .val (.long (0 : Int64)), .second, .unset, .unset, .unset]) rfl k) ?_
    refine own_go (mkF m 20 #[.val (.long q1), .second, .val (.long q2), .second, .val (.int q3), .val (.long (0 : Int64)), .second, .unset, .unset, .unset] [(.long (0 : Int64))]) (fun t k => XS.lload X0.here hx rfl (hb hby at_18) rfl k) ?_
    refine own_go (mkF m 21 #[.val (.long q1), .second, .val (.long q2), .second, .val (.int q3), .val (.long (0 : Int64)), .second, .unset, .unset, .unset] [(.long (0 : Int64)), (.long (0 : Int64))]) (fun t k => XS.lconst X0.here hx rfl (hb hby at_20) k) ?_
    refine own_go (mkF m 22 #[.val (.long q1), .second, .val (.long q2), .second, .val (.int q3), .val (.long (0 : Int64)), .second, .unset, .unset, .unset] [(.int (lcmpW (0 : Int64) (0 : Int64)))]) (fun t k => XS.lcmp X0.here hx rfl (hb hby at_21) rfl k) ?_
    refine own_go (mkF m 25 #[.val (.long q1), .second, .val (.long q2), .second, .val (.int q3), .val (.long (0 : Int64)), .second, .unset, .unset, .unset] []) (fun t k => XS.ifNo X0.here hx rfl (hb hby at_22) rfl (by decide) k) ?_
    refine own_go (mkF m 26 #[.val (.long q1), .second, .val (.long q2), .second, .val (.int q3), .val (.long (0 : Int64)), .second, .unset, .unset, .unset] [(.long (0 : Int64))]) (fun t k => XS.lconst X0.here hx rfl (hb hby at_25) k) ?_
    refine own_go (mkF m 39 #[.val (.long q1), .second, .val (.long q2), .second, .val (.int q3), .val (.long (0 : Int64)), .second, .unset, .unset, .unset] [(.long (0 : Int64))]) (fun t k => XS.goto X0.here hx rfl (pc0 := 26) (pc' := 39) rfl (hb hby at_26) (by decide) (by decide) k) ?_
    refine own_go (mkF m 41 #[.val (.long q1), .second, .val (.long q2), .second, .val (.int q3), .val (.long (0 : Int64)), .second, .val (.long (0 : Int64)), .second, .unset] []) (fun t k => XS.lstore X0.here hx rfl (hb hby at_39) rfl (l' := #[.val (.long q1), .second, .val (.long q2), .second, .val (.int q3), .val (.long (0 : Int64)), .second, .val (.long (0 : Int64)), .second, .unset]) rfl k) ?_
    obtain ⟨T41, h41, X41, e41, E41, A41, D41, -, st41⟩ := newO X0 hx hZ hown (hw _ (List.mem_of_getElem? (i := 1) rfl)) (hw _ (List.mem_of_getElem? (i := 2) rfl)) (hw _ (List.mem_of_getElem? (i := 3) rfl)) e0 (g := (mkF m 41 #[.val (.long q1), .second, .val (.long q2), .second, .val (.int q3), .val (.long (0 : Int64)), .second, .val (.long (0 : Int64)), .second, .unset] [])) rfl (hb hby at_41) (by decide) (by decide)
    obtain ⟨b41, g41⟩ : ∃ z, z = h0.size := ⟨_, rfl⟩
    rw [← g41] at A41 D41 st41
    have gb41 : n0 ≤ b41 := Nat.le_trans Z0 (Nat.le_of_eq g41.symm)
    have Z0_41 : n0 ≤ h41.size := Nat.le_trans Z0 E41.1
    have F_capacity_b41 : Fld Z h41 b41 "com/example/libsluice/libsluice/ByteLimit" "capacity" "J" (.long (0 : Int64)) := D41 (Or.inr (hw _ (List.mem_of_getElem? (i := 16) rfl))) (ty := .long) (by decide)
    have F_resumeMark_b41 : Fld Z h41 b41 "com/example/libsluice/libsluice/ByteLimit" "resumeMark" "J" (.long (0 : Int64)) := D41 (Or.inr (hw _ (List.mem_of_getElem? (i := 18) rfl))) (ty := .long) (by decide)
    refine own_go (T' := T41) (mkF m 44 #[.val (.long q1), .second, .val (.long q2), .second, .val (.int q3), .val (.long (0 : Int64)), .second, .val (.long (0 : Int64)), .second, .unset] [(.ref b41)]) st41 ?_
    refine own_go (mkF m 45 #[.val (.long q1), .second, .val (.long q2), .second, .val (.int q3), .val (.long (0 : Int64)), .second, .val (.long (0 : Int64)), .second, .unset] [(.ref b41), (.ref b41)]) (fun t k => XS.dup X41.here hx rfl (hb hby at_44) rfl rfl k) ?_
    refine own_go (mkF m 47 #[.val (.long q1), .second, .val (.long q2), .second, .val (.int q3), .val (.long (0 : Int64)), .second, .val (.long (0 : Int64)), .second, .unset] [(.long (0 : Int64)), (.ref b41), (.ref b41)]) (fun t k => XS.lload X41.here hx rfl (hb hby at_45) rfl k) ?_
    refine own_go (mkF m 49 #[.val (.long q1), .second, .val (.long q2), .second, .val (.int q3), .val (.long (0 : Int64)), .second, .val (.long (0 : Int64)), .second, .unset] [(.long (0 : Int64)), (.long (0 : Int64)), (.ref b41), (.ref b41)]) (fun t k => XS.lload X41.here hx rfl (hb hby at_47) rfl k) ?_
    have lt49_0 : (0 : Int64).toInt = 0 := rfl
    have lt49_1 : (0 : Int64).toInt = 0 := rfl
    refine own_callI X41 hx hZ (y := (⟨"com/example/libsluice/libsluice/ByteLimit", "<init>", "(JJ)V"⟩ : MethodName)) hown rfl (hw _ (List.mem_of_getElem? (i := 4) rfl)) (hw _ (List.mem_of_getElem? (i := 5) rfl)) (hw _ (List.mem_of_getElem? (i := 3) rfl)) (hw _ (List.mem_of_getElem? (i := 6) rfl)) (by decide) e41 (rm1 l Z a0 hw [] b41 (0 : Int64) (0 : Int64) h41 n0 Z0_41 A41 F_capacity_b41 F_resumeMark_b41 gb41 (by omega)) 1 (by decide) (by decide) (by decide) (by decide) (g := (mkF m 49 #[.val (.long q1), .second, .val (.long q2), .second, .val (.int q3), .val (.long (0 : Int64)), .second, .val (.long (0 : Int64)), .second, .unset] [(.long (0 : Int64)), (.long (0 : Int64)), (.ref b41), (.ref b41)])) rfl (by rw [hml]; rfl) b41 [(.long (0 : Int64)), (.long (0 : Int64))] [(.ref b41)] (lenOf pd0_0 rfl) rfl rfl (by show 2 * 0 + _ ≤ _; exact Nat.le_of_eq rfl) (hb hby at_49) ?_
    intro rv49 T49 h49 L49 X49 e49 hQ49
    obtain ⟨rfl, NQ49, KQ49, EQ49, F_capacity_b41_49, F_resumeMark_b41_49⟩ := hQ49
    have Z0_49 : n0 ≤ h49.size := Nat.le_trans Z0_41 KQ49.1
    have A41_49 := A41.keep KQ49
    have N49 := Fr.app N0 NQ49
    show own_Ends p e below s room_1.cells room_1.slots (Q0 Z q1 q2 q3 h0 n0) T49 (mkF m 52 #[.val (.long q1), .second, .val (.long q2), .second, .val (.int q3), .val (.long (0 : Int64)), .second, .val (.long (0 : Int64)), .second, .unset] [(.ref b41)])
    refine own_go (mkF m 54 #[.val (.long q1), .second, .val (.long q2), .second, .val (.int q3), .val (.long (0 : Int64)), .second, .val (.long (0 : Int64)), .second, .val (.ref b41)] []) (fun t k => XS.astore X49.here hx rfl (hb hby at_52) rfl rfl (l' := #[.val (.long q1), .second, .val (.long q2), .second, .val (.int q3), .val (.long (0 : Int64)), .second, .val (.long (0 : Int64)), .second, .val (.ref b41)]) rfl k) ?_
    refine own_go (mkF m 56 #[.val (.long q1), .second, .val (.long q2), .second, .val (.int q3), .val (.long (0 : Int64)), .second, .val (.long (0 : Int64)), .second, .val (.ref b41)] [(.ref b41)]) (fun t k => XS.aload X49.here hx rfl (hb hby at_54) rfl rfl k) ?_
    refine own_callV X49 hx hZ (y := (⟨"com/example/libsluice/libsluice/ByteLimit", "isUnlimited", "()Z"⟩ : MethodName)) hown (hw _ (List.mem_of_getElem? (i := 19) rfl)) (hw _ (List.mem_of_getElem? (i := 20) rfl)) (hw _ (List.mem_of_getElem? (i := 22) rfl)) (hw _ (List.mem_of_getElem? (i := 21) rfl)) (hw _ (List.mem_of_getElem? (i := 3) rfl)) (hw _ (List.mem_of_getElem? (i := 23) rfl)) (by decide) e49 b41 A41_49 (rm2 l Z a0 hw [] b41 (0 : Int64) h49 n0 Z0_49 F_capacity_b41_49) 0 (by decide) (by decide) (by decide) (by decide) (g := (mkF m 56 #[.val (.long q1), .second, .val (.long q2), .second, .val (.int q3), .val (.long (0 : Int64)), .second, .val (.long (0 : Int64)), .second, .val (.ref b41)] [(.ref b41)])) rfl (by rw [hml]; rfl) [] [] (lenOf pd0_1 rfl) rfl rfl (by show 2 * 0 + _ ≤ _; exact Nat.le_of_eq rfl) (hb hby at_56) ?_
    intro rv56 T56 h56 L56 X56 e56 hQ56
    obtain ⟨⟨r56_, rfl, hr56⟩, NQ56, eq56⟩ := hQ56
    rw [eq56] at e56
    have rr56 := rng32 r56_
    have N56 := Fr.app N49 NQ56
    show own_Ends p e below s room_1.cells room_1.slots (Q0 Z q1 q2 q3 h0 n0) T56 (mkF m 59 #[.val (.long q1), .second, .val (.long q2), .second, .val (.int q3), .val (.long (0 : Int64)), .second, .val (.long (0 : Int64)), .second, .val (.ref b41)] [(.int r56_)])
    refine own_go (mkF m 61 #[.val (.long q1), .second, .val (.long q2), .second, .val (.int q3), .val (.long (0 : Int64)), .second, .val (.long (0 : Int64)), .second, .val (.ref b41)] [(.long (0 : Int64)), (.int r56_)]) (fun t k => XS.lload X56.here hx rfl (hb hby at_59) rfl k) ?_
    refine own_go (mkF m 62 #[.val (.long q1), .second, .val (.long q2), .second, .val (.int q3), .val (.long (0 : Int64)), .second, .val (.long (0 : Int64)), .second, .val (.ref b41)] [(.long (0 : Int64)), (.long (0 : Int64)), (.int r56_)]) (fun t k => XS.lconst X56.here hx rfl (hb hby at_61) k) ?_
    refine own_go (mkF m 63 #[.val (.long q1), .second, .val (.long q2), .second, .val (.int q3), .val (.long (0 : Int64)), .second, .val (.long (0 : Int64)), .second, .val (.ref b41)] [(.int (lcmpW (0 : Int64) (0 : Int64))), (.int r56_)]) (fun t k => XS.lcmp X56.here hx rfl (hb hby at_62) rfl k) ?_
    refine own_go (mkF m 66 #[.val (.long q1), .second, .val (.long q2), .second, .val (.int q3), .val (.long (0 : Int64)), .second, .val (.long (0 : Int64)), .second, .val (.ref b41)] [(.int r56_)]) (fun t k => XS.ifNo X56.here hx rfl (hb hby at_63) rfl (by decide) k) ?_
    refine own_go (mkF m 67 #[.val (.long q1), .second, .val (.long q2), .second, .val (.int q3), .val (.long (0 : Int64)), .second, .val (.long (0 : Int64)), .second, .val (.ref b41)] [(.int (1 : Int32)), (.int r56_)]) (fun t k => XS.iconst X56.here hx rfl (hb hby at_66) k) ?_
    refine own_go (mkF m 71 #[.val (.long q1), .second, .val (.long q2), .second, .val (.int q3), .val (.long (0 : Int64)), .second, .val (.long (0 : Int64)), .second, .val (.ref b41)] [(.int (1 : Int32)), (.int r56_)]) (fun t k => XS.goto X56.here hx rfl (pc0 := 67) (pc' := 71) rfl (hb hby at_67) (by decide) (by decide) k) ?_
    by_cases c71 : r56_.toInt = 1
    · skip
      refine own_go (mkF m 74 #[.val (.long q1), .second, .val (.long q2), .second, .val (.int q3), .val (.long (0 : Int64)), .second, .val (.long (0 : Int64)), .second, .val (.ref b41)] []) (fun t k => XS.icmpNo X56.here hx rfl (hb hby at_71) rfl (own_icF (cd := .ne) (fun q => q c71)) k) ?_
      refine own_go (mkF m 75 #[.val (.long q1), .second, .val (.long q2), .second, .val (.int q3), .val (.long (0 : Int64)), .second, .val (.long (0 : Int64)), .second, .val (.ref b41)] [(.int (1 : Int32))]) (fun t k => XS.iconst X56.here hx rfl (hb hby at_74) k) ?_
      refine own_go (mkF m 79 #[.val (.long q1), .second, .val (.long q2), .second, .val (.int q3), .val (.long (0 : Int64)), .second, .val (.long (0 : Int64)), .second, .val (.ref b41)] [(.int (1 : Int32))]) (fun t k => XS.goto X56.here hx rfl (pc0 := 75) (pc' := 79) rfl (hb hby at_75) (by decide) (by decide) k) ?_
      refine own_retI X56 hx hlk hret (by simp) rfl (hb hby at_79) (by decide) (by decide) ?_
      rw [e56]
      exact ⟨rfl, N56⟩
    · skip
      refine own_go (mkF m 78 #[.val (.long q1), .second, .val (.long q2), .second, .val (.int q3), .val (.long (0 : Int64)), .second, .val (.long (0 : Int64)), .second, .val (.ref b41)] []) (fun t k => XS.icmpYes X56.here hx rfl (pc0 := 71) (pc' := 78) rfl (hb hby at_71) rfl (own_icT (cd := .ne) c71) (by decide) (by decide) k) ?_
      refine own_go (mkF m 79 #[.val (.long q1), .second, .val (.long q2), .second, .val (.int q3), .val (.long (0 : Int64)), .second, .val (.long (0 : Int64)), .second, .val (.ref b41)] [(.int (0 : Int32))]) (fun t k => XS.iconst X56.here hx rfl (hb hby at_78) k) ?_
      refine own_retI X56 hx hlk hret (by simp) rfl (hb hby at_79) (by decide) (by decide) ?_
      rw [e56]
      exfalso
      omega
set_option maxRecDepth 65536 in
set_option maxHeartbeats 40000000 in
theorem comes_1 {Post : Tables → Env → Array Value → State → Outcome → State → Prop} (hpost : ∀ tb e args s v u, (limb_1_1.after args s (.returned v) u = true ∧ limb_1_2.after args s (.returned v) u = true ∧ True) → FrameEnd s (.returned v) u (Jvm.fieldLocs frame_1_writes args s ++ Jvm.arrayLocs frame_1_arrays args s ++ Jvm.staticLocs frame_1_statics s) 16 128 → Post tb e args s (.returned v) u) :
    ArmFor flags0 classFile x code maxLocals ret World_1 tables_1 room_1 Calls_1 rest_1 Pre_1 Post := by
  intro l hfl _ _ p e ha hc hk s m args below hf hA hF happ hP
  obtain ⟨hcalls, hrest, hpre⟩ := hP
  obtain ⟨-, -, -, hnamed, -, -, -, hat⟩ := (Spec.applies_iff hf).mp happ
  obtain ⟨hg, hn⟩ := and_e (Cond.before_iff.mp (show (Jvm.Cond.and given_1 narrow_1).before args s = true from hpre))
  obtain ⟨q0, u0⟩ := and_e hg
  obtain ⟨k0, u1⟩ := and_e u0
  obtain ⟨k1, u2⟩ := and_e u1
  obtain ⟨w0, w1, w2, rfl⟩ : ∃ w0 w1 w2 : Value, args = #[w0, w1, w2] := by
    have hs : args.size = 3 := by simpa [Cond.value, given_1] using q0
    obtain ⟨L⟩ := args
    match L, hs with
    | [w0, w1, w2], _ => exact ⟨w0, w1, w2, rfl⟩
  have hw := fun d (hd : d ∈ tables_1) => atoms_spec (ws := Jvm.Cond.code x code maxLocals ret :: tables_1) hat d (List.mem_cons_of_mem _ hd)
  obtain ⟨i0, g0⟩ := isL_v k0
  obtain rfl : w0 = (.long i0) := Option.some.inj g0
  obtain ⟨i1, g1⟩ := isL_v k1
  obtain rfl : w1 = (.long i1) := Option.some.inj g1
  obtain ⟨i2, g2⟩ := is_v u2
  obtain rfl : w2 = (.int i2) := Option.some.inj g2
  obtain ⟨n, o, h1, h2, h3, _, L, rfl, ⟨rfl, N⟩, hq⟩ := rm0 l s _ hw tables_1 i0 i1 i2 s.heap s.heap.size (Nat.le_refl _)  p e ha hc hk s m _ below hf ((Spec.applies_iff_loose hf).mp happ).1 ⟨rfl, State.Warmed39.refl s, rfl⟩ trivial
  refine ⟨n, _, h1, h2, h3, hpost _ _ _ _ _ _ ⟨Cond.after_iff.mpr rfl, Cond.after_iff.mpr (eq_i res_at (Term.int_eval (1)) rfl), trivial⟩ ⟨hq.1, hq.2.1, (hq.2.2.sift fun y hy => Or.inr (N y hy)).mono (by decide) (by decide)⟩⟩
theorem main_1_1 : Claimed_1_1 := comes_1 fun _ _ _ _ _ _ h hF => ⟨h.1, hF⟩
theorem main_1_2 : Claimed_1_2 := comes_1 fun _ _ _ _ _ _ h hF => ⟨h.2.1, hF⟩
end Jvm.Pilot.@@N@@
namespace Jvm.Pilot.@@N@@
open Jvm Jvm.ClassFile Sem Op Lib Jvm.Free Jvm.Stand Jvm.Pilot.@@N@@.Jvm.D
/-! MADE BY PROGRAM (witnessworld.py) out of the Statement's table words and the real class files: 10 classes; the members and pool entries that the words name. The judged class is class 1, her method 1. -/
namespace start1
open Jvm.ClassFile
def u (s : String) : CpInfo := .utf8 (stringToUtf16 s)
/-- a pool by its gaps: so many unusable entries, then the entry; so many at the end -/
def gap : Nat → List CpInfo → List CpInfo
  | 0, r => r
  | n + 1, r => .unusable :: gap n r
def poolList (es : List (Nat × CpInfo)) (last : Nat) : List CpInfo := es.foldr (fun e r => gap e.1 (e.2 :: r)) (gap last [])
def pool (es : List (Nat × CpInfo)) (last : Nat) : Array CpInfo := ⟨poolList es last⟩
def fileOf (pool : Array CpInfo) (this : Nat) (attrs : Array Attribute := #[]) (ms : Array MethodInfo := #[]) (fl : Nat := 33) (sup : Nat := 0) (ifs : Array Nat := #[]) (fds : Array FieldInfo := #[]) : ClassFile where
  minorVersion := 0
  majorVersion := 65
  constantPool := pool
  accessFlags := fl
  thisClass := this
  superClass := sup
  interfaces := ifs
  fields := fds
  methods := ms
  attributes := attrs
def plain (name : String) (sup : Option ClassId) : Class where
  name := name
  kind := .ordinary
  loader := none
  accessFlags := 33
  super := sup
  interfaces := #[]
  cf := none
  fields := #[]
  methods := #[]
  instanceTypes := #[]
  staticTypes := #[]
  resolved := #[]
  callSites := []
  init := .initialized
  statics := none
  mirror := none

def pool0 : Array CpInfo := pool [(5, u "<init>"), (0, u "()V"), (1, .class_ 10), (1, u "java/lang/Object")] 113

def k0c0 : Code := { maxStack := 0, maxLocals := 1, code := object_method_1_code, exceptionTable := #[], attributes := #[] }
def k0m0 : Method := { name := "<init>", desc := "()V", sig := { parameters := [], returnType := none }, accessFlags := 1, code := some k0c0 }
/-- java/lang/Object -/
def k0 : Class := { plain "java/lang/Object" none with
  accessFlags := 33
  interfaces := #[]
  cf := some (fileOf pool0 8 #[] #[{ accessFlags := 1, nameIndex := 5, descriptorIndex := 6, attributes := #[] }] 33 0 #[] #[])
  fields := #[]
  methods := #[k0m0]
  instanceTypes := #[]
  staticTypes := #[]
  resolved := Array.replicate 124 none
  statics := none }

def pool1 : Array CpInfo := pool [(2, .class_ 4), (1, u "java/lang/Object"), (0, u "<init>"), (0, u "()V"), (2, .long 9223372036854775807), (1, .class_ 12), (0, u "com/example/libsluice/libsluice/ByteLimit"), (0, .methodref 11 14), (0, .nameAndType 5 15), (0, u "(JJ)V"), (0, .methodref 11 17), (0, .nameAndType 18 19), (0, u "isUnlimited"), (0, u "()Z"), (0, .class_ 21), (0, u "com/example/libsluice/libsluice/ByteLimitIsUnlimitedPinLaw"), (2, u "law"), (0, u "(JJI)Z")] 3

def k1m0 : Method := { name := "<init>", desc := "()V", sig := { parameters := [], returnType := none }, accessFlags := 1, code := none }
def k1c1 : Code := { maxStack := 6, maxLocals := 10, code := code, exceptionTable := #[], attributes := #[] }
def k1m1 : Method := { name := "law", desc := "(JJI)Z", sig := { parameters := [.long, .long, .int], returnType := some .boolean }, accessFlags := 9, code := some k1c1 }
/-- com/example/libsluice/libsluice/ByteLimitIsUnlimitedPinLaw -/
def k1 : Class := { plain "com/example/libsluice/libsluice/ByteLimitIsUnlimitedPinLaw" (some 0) with
  accessFlags := 49
  interfaces := #[]
  cf := some (fileOf pool1 20 #[] #[{ accessFlags := 1, nameIndex := 5, descriptorIndex := 6, attributes := #[] }, { accessFlags := 9, nameIndex := 24, descriptorIndex := 25, attributes := #[] }] 49 2 #[] #[])
  fields := #[]
  methods := #[k1m0, k1m1]
  instanceTypes := #[]
  staticTypes := #[]
  resolved := Array.replicate 29 none
  statics := none }

def pool2 : Array CpInfo := pool [(1, .methodref 2 3), (0, .class_ 4), (0, .nameAndType 5 6), (0, u "java/lang/Object"), (0, u "<init>"), (0, u "()V"), (0, .class_ 8), (0, u "java/lang/Record")] 13

def k2c0 : Code := { maxStack := 1, maxLocals := 1, code := jdk_30_method_1_code, exceptionTable := #[], attributes := #[] }
def k2m0 : Method := { name := "<init>", desc := "()V", sig := { parameters := [], returnType := none }, accessFlags := 4, code := some k2c0 }
/-- java/lang/Record -/
def k2 : Class := { plain "java/lang/Record" (some 0) with
  accessFlags := 1057
  interfaces := #[]
  cf := some (fileOf pool2 7 #[] #[{ accessFlags := 4, nameIndex := 5, descriptorIndex := 6, attributes := #[] }] 1057 2 #[] #[])
  fields := #[]
  methods := #[k2m0]
  instanceTypes := #[]
  staticTypes := #[]
  resolved := Array.replicate 22 none
  statics := none }

def pool3 : Array CpInfo := pool [(1, .methodref 2 3), (0, .class_ 4), (0, .nameAndType 5 6), (0, u "java/lang/Record"), (0, u "<init>"), (0, u "()V"), (25, .fieldref 33 34), (0, .class_ 35), (0, .nameAndType 36 37), (0, u "com/example/libsluice/libsluice/ByteLimit"), (0, u "capacity"), (0, u "J"), (0, .fieldref 33 39), (0, .nameAndType 40 37), (0, u "resumeMark"), (2, u "(JJ)V"), (21, u "isUnlimited"), (0, u "()Z")] 61

def k3c0 : Code := { maxStack := 8, maxLocals := 7, code := prog_1_method_1_code, exceptionTable := #[], attributes := #[] }
def k3m0 : Method := { name := "<init>", desc := "(JJ)V", sig := { parameters := [.long, .long], returnType := none }, accessFlags := 1, code := some k3c0 }
def k3c1 : Code := { maxStack := 4, maxLocals := 1, code := prog_1_method_3_code, exceptionTable := #[], attributes := #[] }
def k3m1 : Method := { name := "isUnlimited", desc := "()Z", sig := { parameters := [], returnType := some .boolean }, accessFlags := 1, code := some k3c1 }
/-- com/example/libsluice/libsluice/ByteLimit -/
def k3 : Class := { plain "com/example/libsluice/libsluice/ByteLimit" (some 2) with
  accessFlags := 49
  interfaces := #[]
  cf := some (fileOf pool3 33 #[] #[{ accessFlags := 1, nameIndex := 5, descriptorIndex := 43, attributes := #[] }, { accessFlags := 1, nameIndex := 65, descriptorIndex := 66, attributes := #[] }] 49 2 #[] #[{ accessFlags := 18, nameIndex := 36, descriptorIndex := 37, attributes := #[] }, { accessFlags := 18, nameIndex := 40, descriptorIndex := 37, attributes := #[] }])
  fields := #[{ name := "capacity", type := .long, accessFlags := 18, slot := 0, constantValue := 0 }, { name := "resumeMark", type := .long, accessFlags := 18, slot := 1, constantValue := 0 }]
  methods := #[k3m0, k3m1]
  instanceTypes := #[.long, .long]
  staticTypes := #[]
  resolved := Array.replicate 128 none
  statics := none }

def pool4 : Array CpInfo := pool [(1, u "java/lang/Cloneable"), (0, .class_ 1), (0, u "java/lang/Object"), (0, .class_ 3)] 3

/-- java/lang/Cloneable -/
def k4 : Class := { plain "java/lang/Cloneable" (some 0) with
  accessFlags := 1537
  interfaces := #[]
  cf := some (fileOf pool4 2 #[] #[] 1537 4 #[] #[])
  fields := #[]
  methods := #[]
  instanceTypes := #[]
  staticTypes := #[]
  resolved := Array.replicate 8 none
  statics := none }

def pool5 : Array CpInfo := pool [(1, u "java/io/Serializable"), (0, .class_ 1), (0, u "java/lang/Object"), (0, .class_ 3)] 3

/-- java/io/Serializable -/
def k5 : Class := { plain "java/io/Serializable" (some 0) with
  accessFlags := 1537
  interfaces := #[]
  cf := some (fileOf pool5 2 #[] #[] 1537 4 #[] #[])
  fields := #[]
  methods := #[]
  instanceTypes := #[]
  staticTypes := #[]
  resolved := Array.replicate 8 none
  statics := none }

/-- the primitive byte -/
def k6 : Class := { plain "byte" none with kind := .primitive 'B', accessFlags := 0x411 }
/-- [B -/
def k7 : Class := { plain "[B" (some 0) with kind := .array 6 .byte, interfaces := #[4, 5], accessFlags := 1041 }

/-- the primitive int -/
def k8 : Class := { plain "int" none with kind := .primitive 'I', accessFlags := 0x411 }
/-- [I -/
def k9 : Class := { plain "[I" (some 0) with kind := .array 8 .int, interfaces := #[4, 5], accessFlags := 1041 }

def heap : Heap := #[]
def classes : Array Class := #[k0, k1, k2, k3, k4, k5, k6, k7, k8, k9]
def interned : List (Array UInt16 × Addr) := []
def slotsUsed : Nat := 0
def theMethod : MethodId := ⟨1, 1⟩
def args0 : Array Value := #[.long 5, .long 7, .int 2]
def aboutOver (below : List Frame) : State where
  vm := { classes := classes, interned := interned.toArray }
  heap := heap
  slotsUsed := slotsUsed
  threads := #[{ frames := .invoking theMethod args0 :: below }]
def below0 : List Frame := [.native { method := ⟨0, 0⟩, args := #[] }]
def about1 : State := aboutOver below0
def p0 : Program := .bare "" "" ""
def e0 : Env := launch0.env 0 0 0
theorem w_frames : about1.frames = Frame.invoking theMethod args0 :: below0 := rfl
set_option maxRecDepth 65536 in
theorem w_args : argsFit about1.vm theMethod args0 = true := by decide +kernel
set_option maxRecDepth 65536 in
theorem w_heap : heapFits about1 = true := by decide +kernel
set_option maxRecDepth 65536 in
theorem w_runnable : about1.curStatus? = some .runnable := by decide +kernel
set_option maxRecDepth 65536 in
theorem w_alone : about1.alone = true := by decide +kernel
set_option maxRecDepth 65536 in
theorem w_named : about1.methodNamed? x = some theMethod := by decide +kernel
set_option maxRecDepth 65536 in
theorem w_hears : about1.hears theMethod below0 = true := by decide +kernel
set_option maxRecDepth 65536 in
theorem w_ripe : about1.ripe theMethod args0 below0 = true := by decide +kernel
theorem w_running : about1.status = .running := rfl
set_option maxRecDepth 65536 in
theorem w_room : about1.hasRoom e0.platform room_1 = true :=
  launch0.hasRoom_least _ room_1 (by decide +kernel) (by decide +kernel) (by decide +kernel) (by decide +kernel) (by decide +kernel) (by decide +kernel)
theorem allAtoms_all (ts : List Jvm.Cond) (a : Array Jvm.Value) (st : Jvm.State) : (allAtoms ts).before a st = ts.all (fun c => c.before a st) := by
  induction ts with
  | nil => rfl
  | cons c t ih =>
    show (Jvm.Cond.and c (allAtoms t)).before a st = _
    rw [Jvm.Cond.before_and, ih, List.all_cons]
def words1 : List Jvm.Cond := Jvm.Cond.code x code maxLocals ret :: tables_1
/-- a 'code' word, met by the world's own term for the bytes: nothing is compared byte by byte -/
theorem code_word {y : MethodName} {bytes : ByteArray} {mx : Nat} {rt : Option FieldType} {a : Array Value} {s : State} {m : MethodId} {meth : Method} {c : Code} (h1 : s.methodNamed? y = some m) (h2 : s.vm.method? m = some meth) (h3 : meth.code = some c) (h4 : c.code = bytes)
    (h5 : (c.maxLocals == mx && c.exceptionTable.isEmpty && decide (c.maxStack ≤ mostOperands) && decide (meth.sig.returnType = rt) && !meth.locks && decide (parseMethodDescriptor y.desc = some meth.sig)) = true) : (Jvm.Cond.code y bytes mx rt).before a s = true := by
  simp only [Bool.and_eq_true, beq_iff_eq, Bool.not_eq_true', decide_eq_true_eq] at h5
  obtain ⟨⟨⟨⟨⟨g1, g2⟩, g3⟩, g4⟩, g5⟩, g6⟩ := h5
  simp [Cond.before, Cond.holds, Cond.value, h1, h2, h3, h4, g1, g2, g3, g4, g5, g6]
def isCode : Jvm.Cond → Bool
  | .code _ _ _ _ => true
  | _ => false
theorem all_split {L : List Jvm.Cond} {P : Jvm.Cond → Bool} (h1 : L.all (fun c => isCode c || P c) = true) (h2 : ∀ c ∈ L.filter isCode, P c = true) : L.all P = true := by
  refine List.all_eq_true.mpr fun c hc => ?_
  have h := List.all_eq_true.mp h1 c hc
  rcases Bool.eq_false_or_eq_true (isCode c) with hi | hi
  · exact h2 c (List.mem_filter.mpr ⟨hc, hi⟩)
  · simpa [hi] using h
set_option maxRecDepth 65536 in
theorem w_c0 : (Jvm.Cond.code x code maxLocals ret).before args0 about1 = true := code_word (m := ⟨1, 1⟩) (meth := k1m1) (c := k1c1) (by decide +kernel) rfl rfl rfl (by decide +kernel)
set_option maxRecDepth 65536 in
theorem w_c1 : (Jvm.Cond.code ({ cls := "com/example/libsluice/libsluice/ByteLimit", name := "<init>", desc := "(JJ)V" } : Jvm.MethodName) prog_1_method_1_code (7 : Nat) (Option.none : Option Jvm.ClassFile.FieldType)).before args0 about1 = true := code_word (m := ⟨3, 0⟩) (meth := k3m0) (c := k3c0) (by decide +kernel) rfl rfl rfl (by decide +kernel)
set_option maxRecDepth 65536 in
theorem w_c2 : (Jvm.Cond.code ({ cls := "java/lang/Record", name := "<init>", desc := "()V" } : Jvm.MethodName) jdk_30_method_1_code (1 : Nat) (Option.none : Option Jvm.ClassFile.FieldType)).before args0 about1 = true := code_word (m := ⟨2, 0⟩) (meth := k2m0) (c := k2c0) (by decide +kernel) rfl rfl rfl (by decide +kernel)
set_option maxRecDepth 65536 in
theorem w_c3 : (Jvm.Cond.code ({ cls := "java/lang/Object", name := "<init>", desc := "()V" } : Jvm.MethodName) object_method_1_code (1 : Nat) (Option.none : Option Jvm.ClassFile.FieldType)).before args0 about1 = true := code_word (m := ⟨0, 0⟩) (meth := k0m0) (c := k0c0) (by decide +kernel) rfl rfl rfl (by decide +kernel)
set_option maxRecDepth 65536 in
theorem w_c4 : (Jvm.Cond.code ({ cls := "com/example/libsluice/libsluice/ByteLimit", name := "isUnlimited", desc := "()Z" } : Jvm.MethodName) prog_1_method_3_code (1 : Nat) (Option.some Jvm.ClassFile.FieldType.boolean)).before args0 about1 = true := code_word (m := ⟨3, 1⟩) (meth := k3m1) (c := k3c1) (by decide +kernel) rfl rfl rfl (by decide +kernel)
def codes1 : List Jvm.Cond := [Jvm.Cond.code x code maxLocals ret, Jvm.Cond.code ({ cls := "com/example/libsluice/libsluice/ByteLimit", name := "<init>", desc := "(JJ)V" } : Jvm.MethodName) prog_1_method_1_code (7 : Nat) (Option.none : Option Jvm.ClassFile.FieldType), Jvm.Cond.code ({ cls := "java/lang/Record", name := "<init>", desc := "()V" } : Jvm.MethodName) jdk_30_method_1_code (1 : Nat) (Option.none : Option Jvm.ClassFile.FieldType), Jvm.Cond.code ({ cls := "java/lang/Object", name := "<init>", desc := "()V" } : Jvm.MethodName) object_method_1_code (1 : Nat) (Option.none : Option Jvm.ClassFile.FieldType), Jvm.Cond.code ({ cls := "com/example/libsluice/libsluice/ByteLimit", name := "isUnlimited", desc := "()Z" } : Jvm.MethodName) prog_1_method_3_code (1 : Nat) (Option.some Jvm.ClassFile.FieldType.boolean)]
set_option maxRecDepth 65536 in
theorem codes_eq : words1.filter isCode = codes1 := rfl
theorem w_codes : ∀ c ∈ words1.filter isCode, c.before args0 about1 = true := by
  rw [codes_eq]
  intro c hc
  simp only [codes1, List.mem_cons, List.not_mem_nil, or_false] at hc
  rcases hc with rfl | rfl | rfl | rfl | rfl
  · exact w_c0
  · exact w_c1
  · exact w_c2
  · exact w_c3
  · exact w_c4
set_option maxRecDepth 65536 in
theorem w_t1 : (words1.take 24).all (fun c => isCode c || c.before args0 about1) = true := by decide +kernel
set_option maxRecDepth 65536 in
theorem w_t2 : (words1.drop 24).all (fun c => isCode c || c.before args0 about1) = true := by decide +kernel
theorem w_tables : (allAtoms (Jvm.Cond.code x code maxLocals ret :: tables_1)).before args0 about1 = true := by
  rw [allAtoms_all]
  show words1.all (fun c => c.before args0 about1) = true
  refine all_split ?_ w_codes
  rw [← List.take_append_drop 24 words1, List.all_append, w_t1, w_t2]
  rfl
set_option maxRecDepth 65536 in
theorem w_case : (Jvm.Cond.and given_1 narrow_1).before args0 about1 = true := by decide +kernel
theorem w_applies : (headSpec (Jvm.Cond.code x code maxLocals ret :: tables_1) room_1).applies x e0.platform about1 = true :=
  (Spec.applies_iff w_frames).mpr ⟨w_running, w_runnable, w_alone, w_named, w_hears, w_ripe, w_room, w_tables⟩
theorem atStart : AtStart classFile x code maxLocals ret World_1 tables_1 room_1 Calls_1 rest_1 Pre_1 launch0 p0 e0 about1 theMethod args0 below0 :=
  ⟨lists_1, trivial, launch0.admits_env _ _ _, launch0.least_env, fairChoices_fair.cas, fairChoices_fair.clock, w_frames, w_args, w_heap, w_applies, trivial, trivial, w_case⟩
end start1
theorem witness_1 : WitnessClaimed_1 := ⟨start1.p0, start1.e0, start1.about1, start1.theMethod, start1.args0, start1.below0, start1.atStart⟩
end Jvm.Pilot.@@N@@
