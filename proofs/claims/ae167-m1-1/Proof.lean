import JvmDerived
import JvmDerived.Pilot.@@N@@Statement
import JvmDerived.Pilot.@@N@@Code
set_option linter.unusedVariables false
set_option linter.unusedSimpArgs false
namespace Jvm.Pilot.@@N@@
open Jvm Jvm.ClassFile Sem Op Lib Jvm.Free Jvm.Stand Jvm.LawKit Jvm.RoadKit Bundle Jvm.Pilot.@@N@@.Jvm.D
section Own
variable {p : Program} {l : Launch} {e : Env} {R : Room} {s : State} {m : MethodId} {args : Array Value} {below : List Frame} {meth : Method} {c : Code} {T T' : State} {locs : List Loc} {cells slots C S : Nat} {Qv : Option Value → Heap → List Loc → Prop} {Z : State} {a0 : Array Value} {h : Heap}
/-- from here, with this frame on top, the method returns, Qv holds of what it returns, of the heap and of what was written, within C cells and S slots -/
def own_Ends (p : Program) (e : Env) (below : List Frame) (s : State) (C S : Nat) (Qv : Option Value → Heap → List Loc → Prop) (T : State) (g : JFrame) : Prop :=
  ∃ (s₂ : State) (o : Outcome), Steps p.tables e below (T.setTop g) s₂ ∧ s₂.status = .running ∧ Ended s₂ below o ∧ ∃ v L, o = .returned v ∧ Qv v s₂.heap L ∧ FrameEnd s o s₂ L C S
theorem own_go {g : JFrame} (g' : JFrame) (st : ∀ t, Steps p.tables e below (T'.setTop g') t → Steps p.tables e below (T.setTop g) t) (k : own_Ends p e below s C S Qv T' g') : own_Ends p e below s C S Qv T g := by
  obtain ⟨s₂, o, h1, h⟩ := k
  exact ⟨s₂, o, st _ h1, h⟩
theorem own_ret (X : Stand p l e R s m args below meth c T locs cells slots) (hlk : meth.locks = false) {g : JFrame} {v : Option Value} (hv : meth.sig.returnType = none → v = none)
    (st : ∀ fs, (∀ (f : JFrame) (acts : List Action), f.method = m → f.locked = none → f.entered = [] → (doReturn e (T.setTop f) acts v).1 = T.setFrames fs) → Steps p.tables e below (T.setTop g) (T.setFrames fs))
    (hC : cells ≤ C) (hS : slots ≤ S) (hQ : Qv v T.heap locs) : own_Ends p e below s C S Qv T g := by
  obtain ⟨fs, hr, hrun, hended, hW, hsame⟩ := X.leave (v := v) hv hlk
  exact ⟨_, _, st fs hr, hrun, hended, v, locs, rfl, hQ, ⟨_, rfl⟩, hW, hsame.mono hC hS⟩
theorem own_retI (X : Stand p l e R s m args below meth c T locs cells slots) (hx : p.tables.exec = Jvm.exec) (hlk : meth.locks = false) {pc : Nat} {Ls : Array Slot} {z : Int32} {rest : List Value} {t : FieldType} (hret : meth.sig.returnType = some t)
    (ht : t = .int ∨ t = .boolean ∨ t = .byte ∨ t = .char ∨ t = .short) (hn : narrow t (.int z) = .int z) (hd : decode c.code pc = .ok (.ireturn, 1)) (hC : cells ≤ C) (hS : slots ≤ S) (hQ : Qv (some (.int z)) T.heap locs) : own_Ends p e below s C S Qv T (mkF m pc Ls (.int z :: rest)) :=
  own_ret X hlk (fun h => by rw [hret] at h; cases h) (fun fs hr => retOut X hx hret hn (Or.inl ⟨rfl, ht, _, rfl⟩) hd hr) hC hS hQ
theorem own_retN (X : Stand p l e R s m args below meth c T locs cells slots) (hx : p.tables.exec = Jvm.exec) (hlk : meth.locks = false) {pc : Nat} {Ls : Array Slot} {z : Int32} {rest : List Value} {t : FieldType} (hret : meth.sig.returnType = some t)
    (ht : t = .boolean ∨ t = .byte ∨ t = .char ∨ t = .short) (hd : decode c.code pc = .ok (.ireturn, 1)) (hC : cells ≤ C) (hS : slots ≤ S) (hQ : Qv (some (.int (nar t z))) T.heap locs) : own_Ends p e below s C S Qv T (mkF m pc Ls (.int z :: rest)) :=
  own_ret X hlk (fun h => by rw [hret] at h; cases h) (fun fs hr => retN X hx hret ht hd hr) hC hS hQ
theorem own_retL (X : Stand p l e R s m args below meth c T locs cells slots) (hx : p.tables.exec = Jvm.exec) (hlk : meth.locks = false) {pc : Nat} {Ls : Array Slot} {z : Int64} {rest : List Value} (hret : meth.sig.returnType = some .long)
    (hd : decode c.code pc = .ok (.lreturn, 1)) (hC : cells ≤ C) (hS : slots ≤ S) (hQ : Qv (some (.long z)) T.heap locs) : own_Ends p e below s C S Qv T (mkF m pc Ls (.long z :: rest)) :=
  own_ret X hlk (fun h => by rw [hret] at h; cases h) (fun fs hr => retOut X hx hret rfl (Or.inr (Or.inl ⟨rfl, rfl, _, rfl⟩)) hd hr) hC hS hQ
theorem own_retA (X : Stand p l e R s m args below meth c T locs cells slots) (hx : p.tables.exec = Jvm.exec) (hlk : meth.locks = false) {pc : Nat} {Ls : Array Slot} {z : Addr} {rest : List Value} {t : FieldType} (hret : meth.sig.returnType = some t) (ht : t.isReference = true) (hn : narrow t (.ref z) = .ref z)
    (hd : decode c.code pc = .ok (.areturn, 1)) (hC : cells ≤ C) (hS : slots ≤ S) (hQ : Qv (some (.ref z)) T.heap locs) : own_Ends p e below s C S Qv T (mkF m pc Ls (.ref z :: rest)) :=
  own_ret X hlk (fun h => by rw [hret] at h; cases h) (fun fs hr => retOut X hx hret hn (Or.inr (Or.inr (Or.inr (Or.inr ⟨rfl, ht, rfl⟩)))) hd hr) hC hS hQ
theorem own_ret0 (X : Stand p l e R s m args below meth c T locs cells slots) (hx : p.tables.exec = Jvm.exec) (hlk : meth.locks = false) {pc : Nat} {Ls : Array Slot} (hret : meth.sig.returnType = none)
    (hd : decode c.code pc = .ok (.return_, 1)) (hC : cells ≤ C) (hS : slots ≤ S) (hQ : Qv none T.heap locs) : own_Ends p e below s C S Qv T (mkF m pc Ls []) :=
  own_ret X hlk (fun _ => rfl) (fun fs hr => X.returnOut hx hret hd hr) hC hS hQ
/-- a contract out of its body's walk -/
theorem own_met {y : MethodName} {bytes : ByteArray} {maxL : Nat} {ret : Option FieldType} {ws : List Jvm.Cond} {rm : Room} {as' : Array Value} {h0 : Heap} (hp : plainFor y = true)
    (body : ∀ (p : Program) (e : Env) (s : State) (m : MethodId) (below : List Frame) (meth : Method) (c : Code) (T : State), p.tables.exec = Jvm.exec → c.code = bytes → c.maxLocals = maxL → s.vm.findClass y.cls = some m.cls → meth.sig.returnType = ret → meth.locks = false → meth.name = y.name → Z.Warmed39 s.vm → Stand p l e rm s m as' below meth c T [] 0 0 → T.heap = h0 → own_Ends p e below s rm.cells rm.slots Qv T (entryFrame m as' maxL)) :
    MetFree l y (head1 (Jvm.Cond.code y bytes maxL ret :: ws) rm) (fun a U => a = as' ∧ Z.Warmed39 U.vm ∧ U.heap = h0) (fun _ _ _ _ _ => True) (fun _ U o U' => ∃ v L, o = .returned v ∧ Qv v U'.heap L ∧ FrameEnd U o U' L rm.cells rm.slots) := by
  refine MetFree.of_bodySF hp hisR ?_
  intro p e s m args below meth c s₁ Bd hml0 hP hK
  obtain ⟨rfl, hZ, hh⟩ := hP
  exact body p e s m below meth c s₁ Bd.exec Bd.bytes hml0 (findClass_of_methodNamed Bd.named) Bd.returns Bd.notSynchronized ((name_of_methodNamed Bd.named Bd.method).1) hZ (Stand.of_body Bd) (by rw [← hh, Bd.state]; rfl)
/-- what a callee's contract says (as' its arguments, h the heap where it is called) -/
abbrev own_Met (l : Launch) (Z : State) (y : MethodName) (bytes : ByteArray) (maxL : Nat) (ret : Option FieldType) (rm : Room) (as' : Array Value) (h : Heap) (Q : Option Value → Heap → List Loc → Prop) : Prop :=
  MetFree l y (head1 [Jvm.Cond.code y bytes maxL ret] rm) (fun a U => a = as' ∧ Z.Warmed39 U.vm ∧ U.heap = h) (fun _ _ _ _ _ => True) (fun _ U o U' => ∃ v L, o = .returned v ∧ Q v U'.heap L ∧ FrameEnd U o U' L rm.cells rm.slots)
theorem own_callS (X : Stand p l e R s m args below meth c T locs cells slots) (hx : p.tables.exec = Jvm.exec) (hZ : Z.Warmed39 s.vm) {own : String} {index : Nat} {y : MethodName} {bytes : ByteArray} {maxL : Nat} {ret : Option FieldType} {rm : Room} {as' : Array Value} {Q : Option Value → Heap → List Loc → Prop}
    (hown : s.vm.findClass own = some m.cls) (w1 : (Jvm.Cond.methodLink own index y).before a0 Z = true) (w2 : (Jvm.Cond.static y).before a0 Z = true) (w3 : (Jvm.Cond.initialized y.cls).before a0 Z = true) (w4 : (Jvm.Cond.code y bytes maxL ret).before a0 Z = true)
    (hy : y.cls ≠ "java/lang/invoke/MethodHandle" ∧ y.cls ≠ "java/lang/invoke/VarHandle") (eT : T.heap = h) (hM : own_Met l Z y bytes maxL ret rm as' h Q)
    (W : Nat) (hf : rm.frames + 1 ≤ R.frames) (hl : W + (maxL + 11) + rm.locals ≤ R.locals) (hC : cells + rm.cells ≤ R.cells) (hS : slots + rm.slots ≤ R.slots)
    {g : JFrame} (hg : g.method = m) (hsize : g.locals.size = c.maxLocals) (argsL rest : List Value) (hlen : ∀ sig, parseMethodDescriptor y.desc = some sig → argsL.length = sig.parameters.length)
    (hstack : g.stack = argsL.reverse ++ rest) (has : argsL.toArray = as') (hW : 2 * g.monitorRoom + (rest.map fun v => v.category).sum ≤ W) (hd : decode c.code g.pc = .ok (.invokestatic index, 3))
    (k : ∀ v T' h' L, Stand p l e R s m args below meth c T' (locs ++ L) (cells + rm.cells) (slots + rm.slots) → T'.heap = h' → Q v h' L → own_Ends p e below s C S Qv T' { g with pc := g.pc + 3, stack := v.toList ++ rest }) : own_Ends p e below s C S Qv T g := by
  obtain ⟨v, _, ⟨T', L', k', n'⟩, -, X', ⟨Lc, hQ, l1, y1, z1⟩, st⟩ := Jvm.LawKit.callS X hx (y := y) hown (mvT hZ w1) (mvT hZ w2) (mvT hZ w3) (mvT hZ w4) hy (backOf (W := W) hM hZ w4 w3 hf hl) (g := g) hg hsize (argsL := argsL) (rest := rest) hlen hstack hW hd (fun _ _ => ⟨has, eT, hC, hS⟩)
  dsimp only [Pt.U, Pt.locs, Pt.cells, Pt.slots] at X' l1 y1 z1 st hQ
  subst l1 y1 z1
  exact own_go _ st (k v T' _ Lc X' rfl hQ)
theorem own_callI (X : Stand p l e R s m args below meth c T locs cells slots) (hx : p.tables.exec = Jvm.exec) (hZ : Z.Warmed39 s.vm) {own : String} {index : Nat} {y : MethodName} {bytes : ByteArray} {maxL : Nat} {rm : Room} {as' : Array Value} {Q : Option Value → Heap → List Loc → Prop}
    (hown : s.vm.findClass own = some m.cls) (hy1 : y.name = "<init>") (w1 : (Jvm.Cond.methodLink own index y).before a0 Z = true) (w2 : (Jvm.Cond.instanceMethod y).before a0 Z = true) (w3 : (Jvm.Cond.initialized y.cls).before a0 Z = true) (w4 : (Jvm.Cond.code y bytes maxL none).before a0 Z = true)
    (hy : y.cls ≠ "java/lang/invoke/MethodHandle" ∧ y.cls ≠ "java/lang/invoke/VarHandle") (eT : T.heap = h) (hM : own_Met l Z y bytes maxL none rm as' h Q)
    (W : Nat) (hf : rm.frames + 1 ≤ R.frames) (hl : W + (maxL + 11) + rm.locals ≤ R.locals) (hC : cells + rm.cells ≤ R.cells) (hS : slots + rm.slots ≤ R.slots)
    {g : JFrame} (hg : g.method = m) (hsize : g.locals.size = c.maxLocals) (a : Addr) (argsL rest : List Value) (hlen : ∀ sig, parseMethodDescriptor y.desc = some sig → argsL.length = sig.parameters.length)
    (hstack : g.stack = argsL.reverse ++ .ref a :: rest) (has : (Value.ref a :: argsL).toArray = as') (hW : 2 * g.monitorRoom + (rest.map fun v => v.category).sum ≤ W) (hd : decode c.code g.pc = .ok (.invokespecial index, 3))
    (k : ∀ v T' h' L, Stand p l e R s m args below meth c T' (locs ++ L) (cells + rm.cells) (slots + rm.slots) → T'.heap = h' → Q v h' L → own_Ends p e below s C S Qv T' { g with pc := g.pc + 3, stack := v.toList ++ rest }) : own_Ends p e below s C S Qv T g := by
  obtain ⟨v, _, ⟨T', L', k', n'⟩, -, X', ⟨Lc, hQ, l1, y1, z1⟩, st⟩ := Jvm.LawKit.callI X hx (y := y) hown hy1 (mvT hZ w1) (mvT hZ w2) (mvT hZ w4) hy (backOf (W := W) hM hZ w4 w3 hf hl) (g := g) hg hsize (a := a) (argsL := argsL) (rest := rest) hlen hstack hW hd (fun _ _ => ⟨has, eT, hC, hS⟩)
  dsimp only [Pt.U, Pt.locs, Pt.cells, Pt.slots] at X' l1 y1 z1 st hQ
  subst l1 y1 z1
  exact own_go _ st (k v T' _ Lc X' rfl hQ)
theorem own_callV (X : Stand p l e R s m args below meth c T locs cells slots) (hx : p.tables.exec = Jvm.exec) (hZ : Z.Warmed39 s.vm) {own C0 : String} {index : Nat} {y : MethodName} {bytes : ByteArray} {maxL : Nat} {ret : Option FieldType} {rm : Room} {as' : Array Value} {Q : Option Value → Heap → List Loc → Prop}
    (hown : s.vm.findClass own = some m.cls) (w1 : (Jvm.Cond.methodLink own index y).before a0 Z = true) (w5 : (Jvm.Cond.declares y).before a0 Z = true) (w6 : (Jvm.Cond.selects C0 y y).before a0 Z = true) (w2 : (Jvm.Cond.instanceMethod y).before a0 Z = true) (w3 : (Jvm.Cond.initialized y.cls).before a0 Z = true) (w4 : (Jvm.Cond.code y bytes maxL ret).before a0 Z = true)
    (hy : y.cls ≠ "java/lang/invoke/MethodHandle" ∧ y.cls ≠ "java/lang/invoke/VarHandle") (eT : T.heap = h) (a : Addr) (E : Exa Z h a C0) (hM : own_Met l Z y bytes maxL ret rm as' h Q)
    (W : Nat) (hf : rm.frames + 1 ≤ R.frames) (hl : W + (maxL + 11) + rm.locals ≤ R.locals) (hC : cells + rm.cells ≤ R.cells) (hS : slots + rm.slots ≤ R.slots)
    {g : JFrame} (hg : g.method = m) (hsize : g.locals.size = c.maxLocals) (argsL rest : List Value) (hlen : ∀ sig, parseMethodDescriptor y.desc = some sig → argsL.length = sig.parameters.length)
    (hstack : g.stack = argsL.reverse ++ .ref a :: rest) (has : (Value.ref a :: argsL).toArray = as') (hW : 2 * g.monitorRoom + (rest.map fun v => v.category).sum ≤ W) (hd : decode c.code g.pc = .ok (.invokevirtual index, 3))
    (k : ∀ v T' h' L, Stand p l e R s m args below meth c T' (locs ++ L) (cells + rm.cells) (slots + rm.slots) → T'.heap = h' → Q v h' L → own_Ends p e below s C S Qv T' { g with pc := g.pc + 3, stack := v.toList ++ rest }) : own_Ends p e below s C S Qv T g := by
  obtain ⟨cq, kq, q1, q2, q3⟩ := isOf hZ eT E
  obtain ⟨v, _, ⟨T', L', k', n'⟩, -, X', ⟨Lc, hQ, l1, y1, z1⟩, st⟩ := X.virtualBack hx (y := y) (z := y) hown (mvT hZ w1) (mvT hZ w5) (notFace_of_selects (args := #[]) (mvT hZ w6)) (mvT hZ w6) (mvT hZ w2) hy (backOf (W := W) hM hZ w4 w3 hf hl) q1 q3 (g := g) hg hsize (Steps.refl _) (argsL := argsL) (rest := rest) hlen hstack hW hd (fun _ _ => ⟨has, eT, hC, hS⟩)
  dsimp only [Pt.U, Pt.locs, Pt.cells, Pt.slots] at X' l1 y1 z1 st hQ
  subst l1 y1 z1
  exact own_go _ (fun t q => st.trans q) (k v T' _ Lc X' rfl hQ)
theorem own_callP (X : Stand p l e R s m args below meth c T locs cells slots) (hx : p.tables.exec = Jvm.exec) (hZ : Z.Warmed39 s.vm) {own C0 : String} {index kk : Nat} {y : MethodName} {bytes : ByteArray} {maxL : Nat} {ret : Option FieldType} {rm : Room} {as' : Array Value} {Q : Option Value → Heap → List Loc → Prop}
    (hown : s.vm.findClass own = some m.cls) (w1 : (Jvm.Cond.methodLink own index y).before a0 Z = true) (w2 : (Jvm.Cond.instanceMethod y).before a0 Z = true) (wi : (Jvm.Cond.instantiable y.cls kk).before a0 Z = true) (w5 : (Jvm.Cond.privateMethod y).before a0 Z = true) (w3 : (Jvm.Cond.initialized y.cls).before a0 Z = true) (w4 : (Jvm.Cond.code y bytes maxL ret).before a0 Z = true)
    (hy : y.cls ≠ "java/lang/invoke/MethodHandle" ∧ y.cls ≠ "java/lang/invoke/VarHandle") (eT : T.heap = h) (a : Addr) (E : Exa Z h a C0) (hM : own_Met l Z y bytes maxL ret rm as' h Q)
    (W : Nat) (hf : rm.frames + 1 ≤ R.frames) (hl : W + (maxL + 11) + rm.locals ≤ R.locals) (hC : cells + rm.cells ≤ R.cells) (hS : slots + rm.slots ≤ R.slots)
    {g : JFrame} (hg : g.method = m) (hsize : g.locals.size = c.maxLocals) (argsL rest : List Value) (hlen : ∀ sig, parseMethodDescriptor y.desc = some sig → argsL.length = sig.parameters.length)
    (hstack : g.stack = argsL.reverse ++ .ref a :: rest) (has : (Value.ref a :: argsL).toArray = as') (hW : 2 * g.monitorRoom + (rest.map fun v => v.category).sum ≤ W) (hd : decode c.code g.pc = .ok (.invokevirtual index, 3))
    (k : ∀ v T' h' L, Stand p l e R s m args below meth c T' (locs ++ L) (cells + rm.cells) (slots + rm.slots) → T'.heap = h' → Q v h' L → own_Ends p e below s C S Qv T' { g with pc := g.pc + 3, stack := v.toList ++ rest }) : own_Ends p e below s C S Qv T g := by
  obtain ⟨cq, q1, q2⟩ := E.cell
  have hp := Cond.privateMethod_at (mvP hZ w5 (args := #[]))
  obtain ⟨c2, k2, i1, i2, i3, i4, -⟩ := Cond.instantiable_spec (mvT (args := args) hZ wi)
  have hni : k2.isInterface = false := (Bool.or_eq_false_iff.mp i4).1
  have w6 := selects_self_of_private i1 i2 hni hp (mvT (args := args) hZ w2) hy
  obtain ⟨v, _, ⟨T', L', k', n'⟩, -, X', ⟨Lc, hQ, l1, y1, z1⟩, st⟩ := X.privateBack hx (y := y) hown (mvT hZ w1) (mvT hZ w2) w6 hp (mvT hZ w4) hy (backOf (W := W) hM hZ w4 w3 hf hl) (g := g) hg hsize (Steps.refl _) (a := a) (by rw [eT]; exact q1) q2 (argsL := argsL) (rest := rest) hlen hstack hW hd (fun _ _ => ⟨has, eT, hC, hS⟩)
  dsimp only [Pt.U, Pt.locs, Pt.cells, Pt.slots] at X' l1 y1 z1 st hQ
  subst l1 y1 z1
  exact own_go _ (fun t q => st.trans q) (k v T' _ Lc X' rfl hQ)
abbrev own_rel (cd : ClassFile.Cond) (a b : Int) : Prop := match cd with | .eq => a = b | .ne => ¬ a = b | .lt => a < b | .ge => b ≤ a | .gt => b < a | .le => a ≤ b
theorem own_icT {cd : ClassFile.Cond} {x y : Int32} (h : own_rel cd x.toInt y.toInt) : if_icmp.holds cd x y = true := by
  cases cd <;> simp [own_rel] at h <;> simp [if_icmp.holds, Int32.lt_iff_toInt_lt, Int32.le_iff_toInt_le, ← Int32.toInt_inj, h]
theorem own_icF {cd : ClassFile.Cond} {x y : Int32} (h : ¬ own_rel cd x.toInt y.toInt) : if_icmp.holds cd x y = false := by
  cases cd <;> simp [own_rel] at h <;> simp [if_icmp.holds, Int32.lt_iff_toInt_lt, Int32.le_iff_toInt_le, ← Int32.toInt_inj, h]
theorem own_zT {cd : ClassFile.Cond} {x : Int32} (h : own_rel cd x.toInt 0) : ifCond.holds cd x = true := (if0 cd x).trans (own_icT h)
theorem own_zF {cd : ClassFile.Cond} {x : Int32} (h : ¬ own_rel cd x.toInt 0) : ifCond.holds cd x = false := (if0 cd x).trans (own_icF h)
theorem own_cmp (cd : ClassFile.Cond) (x y : Int64) : own_rel cd (lcmpW x y).toInt 0 ↔ own_rel cd x.toInt y.toInt := by
  have h := c_lcmp x y
  cases cd <;> simp only [own_rel] <;> omega
theorem own_lcT {cd : ClassFile.Cond} {x y : Int64} (h : own_rel cd x.toInt y.toInt) : ifCond.holds cd (lcmpW x y) = true := own_zT ((own_cmp cd x y).mpr h)
theorem own_lcF {cd : ClassFile.Cond} {x y : Int64} (h : ¬ own_rel cd x.toInt y.toInt) : ifCond.holds cd (lcmpW x y) = false := own_zF (fun q => h ((own_cmp cd x y).mp q))
theorem own_xorm1 (x : Int64) : (x ^^^ (-1 : Int64)).toInt = -x.toInt - 1 := by
  have h : x ^^^ (-1 : Int64) = ~~~x := by
    apply Int64.toBitVec_inj.mp
    show x.toBitVec ^^^ BitVec.ofInt 64 (-1) = ~~~x.toBitVec
    have : BitVec.ofInt 64 (-1) = BitVec.allOnes 64 := by decide
    rw [this, BitVec.xor_allOnes]
  rw [h, Int64.toInt_not]
  have := rng64 x
  have e : (-x.toInt - 1).bmod (2 ^ 64) = -x.toInt - 1 := by
    rw [Int.bmod_eq_of_le] <;> omega
  first | exact e | omega
theorem own_nz32 {y : Int32} (h : ¬ y.toInt = 0) : y ≠ 0 := fun q => h (by rw [q]; rfl)
theorem own_nz64 {y : Int64} (h : ¬ y.toInt = 0) : y ≠ 0 := fun q => h (by rw [q]; rfl)
theorem own_lremV (x y : Int64) : 0 ≤ x.toInt → 0 < y.toInt → 0 ≤ (x - (x / y) * y).toInt ∧ (x - (x / y) * y).toInt < y.toInt ∧ (x - (x / y) * y).toInt ≤ x.toInt := by
  intro h0 h1
  rw [(c_lrem x y y.toInt rfl).1 h0]
  refine ⟨Int.emod_nonneg _ (by omega), Int.emod_lt_of_pos _ h1, ?_⟩
  have := Int.emod_add_mul_ediv x.toInt y.toInt
  have h2 : 0 ≤ x.toInt / y.toInt := Int.ediv_nonneg h0 (by omega)
  have h3 : 0 ≤ y.toInt * (x.toInt / y.toInt) := Int.mul_nonneg (by omega) h2
  omega
theorem own_iremV (x y : Int32) : 0 ≤ x.toInt → 0 < y.toInt → 0 ≤ (x % y).toInt ∧ (x % y).toInt < y.toInt ∧ (x % y).toInt ≤ x.toInt := fun h0 h1 =>
  have h := (c_iremV x y).1 h0 h1
  ⟨h.1, h.2.1, h.2.2.1⟩
end Own
section OwnArr
variable {p : Program} {l : Launch} {e : Env} {R : Room} {s : State} {m : MethodId} {args : Array Value} {below : List Frame} {meth : Method} {c : Code} {T T' : State} {locs : List Loc} {cells slots C S : Nat} {Qv : Option Value → Heap → List Loc → Prop} {Z : State} {a0 : Array Value} {h h' : Heap} {a b : Addr} {ty : FieldType} {n sl : Nat} {f : Nat → Value} {v : Value}
/-- an array of kind ty, n long, whose i-th place holds f i -/
def own_Av (Z : State) (h : Heap) (a : Addr) (ty : FieldType) (n : Nat) (f : Nat → Value) : Prop := ∃ c : Cell, Arr Z h a c ty ∧ c.slots.size = n ∧ ∀ i, i < n → c.slots[i]? = some (f i)
theorem own_Av.lt (F : own_Av Z h a ty n f) : a < h.size := by obtain ⟨c, A, -⟩ := F; exact A.lt
theorem own_Av.ext (F : own_Av Z h a ty n f) (E : Ext h h') : own_Av Z h' a ty n f := by obtain ⟨c, A, r⟩ := F; exact ⟨c, A.ext E, r⟩
theorem own_Av.other (F : own_Av Z h b ty n f) (W : Wr h h' a sl v) (q : b ≠ a) : own_Av Z h' b ty n f := by obtain ⟨c, A, r⟩ := F; exact ⟨c, A.other W q, r⟩
theorem own_Av.keep {ws : List Addr} (F : own_Av Z h a ty n f) (K : Keep h h' ws) (q : a ∉ ws) : own_Av Z h' a ty n f := by obtain ⟨c, A, r⟩ := F; exact ⟨c, ⟨K.2.1 a c A.1 q, A.2⟩, r⟩
theorem own_Av.set (F : own_Av Z h a ty n f) {j : Nat} (W : Wr h h' a j v) : own_Av Z h' a ty n (fun i => if i = j then v else f i) := by
  obtain ⟨c, A, hs, H⟩ := F
  refine ⟨c.setSlot j v, A.same W, by rw [sz_set]; exact hs, fun i hi => ?_⟩
  have hj : j < c.slots.size ∨ ¬ j < c.slots.size := Classical.em _
  show (c.slots.setIfInBounds j v)[i]? = some (if i = j then v else f i)
  by_cases q : i = j
  · subst q; simp [hs, hi]
  · rw [if_neg q, Array.getElem?_setIfInBounds_ne (Ne.symm q)]; exact H i hi
abbrev own_AI (Z : State) (h : Heap) (a : Addr) (ty : FieldType) (n : Nat) (F : Nat → Int32) : Prop := own_Av Z h a ty n (fun i => .int (F i))
abbrev own_AL (Z : State) (h : Heap) (a : Addr) (n : Nat) (F : Nat → Int64) : Prop := own_Av Z h a .long n (fun i => .long (F i))
theorem own_Av.eq {f' : Nat → Value} (F : own_Av Z h a ty n f) (q : ∀ i, i < n → f i = f' i) : own_Av Z h a ty n f' := by obtain ⟨c, A, hs, H⟩ := F; exact ⟨c, A, hs, fun i hi => by rw [← q i hi]; exact H i hi⟩
theorem own_idx {j : Int32} (h0 : 0 ≤ j.toInt) (h1 : j.toInt < n) : ¬ (j < 0 ∨ n ≤ j.toNatClampNeg) ∧ j.toNatClampNeg = j.toInt.toNat := by
  have e : j.toNatClampNeg = j.toInt.toNat := rfl
  refine ⟨fun q => ?_, e⟩
  rcases q with q | q
  · rw [Int32.lt_iff_toInt_lt] at q; have : (0 : Int32).toInt = 0 := rfl; omega
  · rw [e] at q; omega
theorem own_nn {j : Int32} (h0 : 0 ≤ j.toInt) : ¬ j < 0 := fun q => by rw [Int32.lt_iff_toInt_lt] at q; have : (0 : Int32).toInt = 0 := rfl; omega
theorem own_newarr (X : Stand p l e R s m args below meth c T locs cells slots) (hx : p.tables.exec = Jvm.exec) (hZ : Z.Warmed39 s.vm) {aty : ArrayType} (w : (Jvm.Cond.arrayClass (newarray.typeOf aty)).before a0 Z = true) (eT : T.heap = h) {g : JFrame} (hg : g.method = m) (hd : decode c.code g.pc = .ok (.newarray aty, 2)) {z : Int32} {rest : List Value} (hs : g.stack = .int z :: rest)
    (hz : 0 ≤ z.toInt) (cap : Nat) (hcap : z.toInt ≤ cap) (hb : cap * 8 ≤ 536870912) (hc : cells + 1 ≤ R.cells) (hl : slots + cap ≤ R.slots)
    (k : ∀ T' h' b, Stand p l e R s m args below meth c T' locs (cells + 1) (slots + cap) → T'.heap = h' → Ext h h' → b = h.size → own_Av Z h' b (newarray.typeOf aty) z.toInt.toNat (fun _ => defaultValue (newarray.typeOf aty)) → own_Ends p e below s C S Qv T' { g with pc := g.pc + 2, stack := .ref b :: rest }) : own_Ends p e below s C S Qv T g := by
  have e1 : z.toNatClampNeg = z.toInt.toNat := rfl
  obtain ⟨T', h', cA, X', e', E, A, st⟩ := newP X hx hZ w eT hg hd hs (own_nn hz) (cap := cap) (by rw [e1]; omega) hb hc hl
  refine own_go _ st (k T' h' _ X' e' E rfl ⟨_, A, sz_new _ _ _, fun i hi => ?_⟩)
  show (Array.replicate _ _)[i]? = _
  rw [Array.getElem?_replicate, if_pos (by rw [e1]; exact hi)]
theorem own_alen (X : Stand p l e R s m args below meth c T locs cells slots) (hx : p.tables.exec = Jvm.exec) (hZ : Z.Warmed39 s.vm) (eT : T.heap = h) (A : own_Av Z h a ty n f) (z : Int32) (hz : z.toInt = n) {g : JFrame} (hg : g.method = m) {rest : List Value} (hs : g.stack = .ref a :: rest) (hd : decode c.code g.pc = .ok (.arraylength, 1))
    (k : own_Ends p e below s C S Qv T { g with pc := g.pc + 1, stack := .int z :: rest }) : own_Ends p e below s C S Qv T g := by
  obtain ⟨cl, A, hn, -⟩ := A
  have e1 : cl.slots.size.toInt32 = z := by
    rw [hn]
    have r := rng32 z
    apply Int32.toInt_inj.mp
    rw [hz]
    show (Int32.ofNat n).toInt = n
    rw [Int32.toInt_ofNat_of_lt (by omega)]
  refine own_go _ (fun t q => X.arraylength hx (by rw [eT]; exact A.1) (State.isArrayOf_alike hZ.alike A.2.1) hg hs hd t (by rw [e1]; exact q)) k
theorem own_iaload (X : Stand p l e R s m args below meth c T locs cells slots) (hx : p.tables.exec = Jvm.exec) (hZ : Z.Warmed39 s.vm) (eT : T.heap = h) {F : Nat → Int32} (A : own_AI Z h a .int n F) {j : Int32} (h0 : 0 ≤ j.toInt) (h1 : j.toInt < n) {g : JFrame} (hg : g.method = m) {rest : List Value} (hs : g.stack = .int j :: .ref a :: rest) (hd : decode c.code g.pc = .ok (.iaload, 1))
    (k : own_Ends p e below s C S Qv T { g with pc := g.pc + 1, stack := .int (F j.toInt.toNat) :: rest }) : own_Ends p e below s C S Qv T g := by
  obtain ⟨cl, A, hn, H⟩ := A
  have q := own_idx h0 h1
  exact own_go _ (fun t r => X.iaload hx (by rw [eT]; exact A.1) (State.isArrayOf_alike hZ.alike A.2.1) A.2.2 (by rw [hn]; exact q.1) (by rw [q.2]; exact H _ (by omega)) hg hs hd t r) k
theorem own_baload (X : Stand p l e R s m args below meth c T locs cells slots) (hx : p.tables.exec = Jvm.exec) (hZ : Z.Warmed39 s.vm) (eT : T.heap = h) {F : Nat → Int32} (A : own_AI Z h a .byte n F) {j : Int32} (h0 : 0 ≤ j.toInt) (h1 : j.toInt < n) {g : JFrame} (hg : g.method = m) {rest : List Value} (hs : g.stack = .int j :: .ref a :: rest) (hd : decode c.code g.pc = .ok (.baload, 1))
    (k : own_Ends p e below s C S Qv T { g with pc := g.pc + 1, stack := .int (F j.toInt.toNat) :: rest }) : own_Ends p e below s C S Qv T g := by
  obtain ⟨cl, A, hn, H⟩ := A
  have q := own_idx h0 h1
  exact own_go _ (fun t r => X.baloadBytes hx (by rw [eT]; exact A.1) (State.isArrayOf_alike hZ.alike A.2.1) A.2.2 (by rw [hn]; exact q.1) (by rw [q.2]; exact H _ (by omega)) hg hs hd t r) k
theorem own_laload (X : Stand p l e R s m args below meth c T locs cells slots) (hx : p.tables.exec = Jvm.exec) (hZ : Z.Warmed39 s.vm) (eT : T.heap = h) {F : Nat → Int64} (A : own_AL Z h a n F) {j : Int32} (h0 : 0 ≤ j.toInt) (h1 : j.toInt < n) {g : JFrame} (hg : g.method = m) {rest : List Value} (hs : g.stack = .int j :: .ref a :: rest) (hd : decode c.code g.pc = .ok (.laload, 1))
    (k : own_Ends p e below s C S Qv T { g with pc := g.pc + 1, stack := .long (F j.toInt.toNat) :: rest }) : own_Ends p e below s C S Qv T g := by
  obtain ⟨cl, A, hn, H⟩ := A
  have q := own_idx h0 h1
  exact own_go _ (fun t r => X.laload hx (by rw [eT]; exact A.1) (State.isArrayOf_alike hZ.alike A.2.1) A.2.2 (by rw [hn]; exact q.1) (by rw [q.2]; exact H _ (by omega)) hg hs hd t r) k
theorem own_iastore (X : Stand p l e R s m args below meth c T locs cells slots) (hx : p.tables.exec = Jvm.exec) (hZ : Z.Warmed39 s.vm) (eT : T.heap = h) {F : Nat → Int32} (A : own_AI Z h a .int n F) {j : Int32} {x : Int32} (h0 : 0 ≤ j.toInt) (h1 : j.toInt < n) {g : JFrame} (hg : g.method = m) {rest : List Value} (hs : g.stack = .int x :: .int j :: .ref a :: rest) (hd : decode c.code g.pc = .ok (.iastore, 1))
    (k : ∀ T' h' F', Stand p l e R s m args below meth c T' (locs ++ [⟨a, j.toInt.toNat⟩]) cells slots → T'.heap = h' → Wr h h' a j.toInt.toNat (.int x) → (F' = fun i => if i = j.toInt.toNat then x else F i) → own_AI Z h' a .int n F' → own_Ends p e below s C S Qv T' { g with pc := g.pc + 1, stack := rest }) : own_Ends p e below s C S Qv T g := by
  obtain ⟨cl, Ar, hn, H⟩ := id A
  have q := own_idx h0 h1
  obtain ⟨T', h', X', e', W, st⟩ := stI X hx hZ eT Ar (j := j) (by rw [hn]; exact q.1) hg hs hd
  skip
  exact own_go _ st (k T' h' _ X' e' W rfl ((own_Av.set A W).eq fun i _ => by
    show (if i = j.toInt.toNat then Value.int x else Value.int (F i)) = Value.int (if i = j.toInt.toNat then x else F i)
    by_cases q : i = j.toInt.toNat
    · rw [if_pos q, if_pos q]
    · rw [if_neg q, if_neg q]))
theorem own_lastore (X : Stand p l e R s m args below meth c T locs cells slots) (hx : p.tables.exec = Jvm.exec) (hZ : Z.Warmed39 s.vm) (eT : T.heap = h) {F : Nat → Int64} (A : own_AL Z h a n F) {j : Int32} {x : Int64} (h0 : 0 ≤ j.toInt) (h1 : j.toInt < n) {g : JFrame} (hg : g.method = m) {rest : List Value} (hs : g.stack = .long x :: .int j :: .ref a :: rest) (hd : decode c.code g.pc = .ok (.lastore, 1))
    (k : ∀ T' h' F', Stand p l e R s m args below meth c T' (locs ++ [⟨a, j.toInt.toNat⟩]) cells slots → T'.heap = h' → Wr h h' a j.toInt.toNat (.long x) → (F' = fun i => if i = j.toInt.toNat then x else F i) → own_AL Z h' a n F' → own_Ends p e below s C S Qv T' { g with pc := g.pc + 1, stack := rest }) : own_Ends p e below s C S Qv T g := by
  obtain ⟨cl, Ar, hn, H⟩ := id A
  have q := own_idx h0 h1
  obtain ⟨T', h', X', e', W, st⟩ := stJ X hx hZ eT Ar (j := j) (by rw [hn]; exact q.1) hg hs hd
  skip
  exact own_go _ st (k T' h' _ X' e' W rfl ((own_Av.set A W).eq fun i _ => by
    show (if i = j.toInt.toNat then Value.long x else Value.long (F i)) = Value.long (if i = j.toInt.toNat then x else F i)
    by_cases q : i = j.toInt.toNat
    · rw [if_pos q, if_pos q]
    · rw [if_neg q, if_neg q]))
theorem own_bastore (X : Stand p l e R s m args below meth c T locs cells slots) (hx : p.tables.exec = Jvm.exec) (hZ : Z.Warmed39 s.vm) (eT : T.heap = h) {F : Nat → Int32} (A : own_AI Z h a .byte n F) {j : Int32} {x x0 : Int32} (h0 : 0 ≤ j.toInt) (h1 : j.toInt < n) (hy : nar .byte x0 = x) {g : JFrame} (hg : g.method = m) {rest : List Value} (hs : g.stack = .int x0 :: .int j :: .ref a :: rest) (hd : decode c.code g.pc = .ok (.bastore, 1))
    (k : ∀ T' h' F', Stand p l e R s m args below meth c T' (locs ++ [⟨a, j.toInt.toNat⟩]) cells slots → T'.heap = h' → Wr h h' a j.toInt.toNat (.int x) → (F' = fun i => if i = j.toInt.toNat then x else F i) → own_AI Z h' a .byte n F' → own_Ends p e below s C S Qv T' { g with pc := g.pc + 1, stack := rest }) : own_Ends p e below s C S Qv T g := by
  obtain ⟨cl, Ar, hn, H⟩ := id A
  have q := own_idx h0 h1
  obtain ⟨T', h', X', e', W, st⟩ := stB X hx hZ eT Ar (j := j) (by rw [hn]; exact q.1) hg hs hd
  rw [hy] at W
  exact own_go _ st (k T' h' _ X' e' W rfl ((own_Av.set A W).eq fun i _ => by
    show (if i = j.toInt.toNat then Value.int x else Value.int (F i)) = Value.int (if i = j.toInt.toNat then x else F i)
    by_cases q : i = j.toInt.toNat
    · rw [if_pos q, if_pos q]
    · rw [if_neg q, if_neg q]))
end OwnArr
/-- the text up to e ends a head (G: the bytes, as whole numbers) -/
def own_P (G : Int → Int) (lo hi e : Int) : Prop := e ≤ hi ∧ lo + 2 ≤ e ∧ G (e - 1) = 10 ∧ (G (e - 2) = 10 ∨ (lo ≤ e - 3 ∧ G (e - 2) = 13 ∧ G (e - 3) = 10))
def own_G (F : Nat → Int32) (i : Int) : Int := (F i.toNat).toInt
/-- r is the least such e from k to 8, or -1 -/
def own_J (G : Int → Int) (lo hi k r : Int) : Prop := (r = -1 ∧ ∀ e, k ≤ e → e ≤ 8 → ¬ own_P G lo hi e) ∨ (k ≤ r ∧ r ≤ 8 ∧ own_P G lo hi r ∧ ∀ e, k ≤ e → e < r → ¬ own_P G lo hi e)
theorem own_J_hit {G : Int → Int} {lo hi k : Int} (h1 : k ≤ 8) (h : own_P G lo hi k) : own_J G lo hi k k := Or.inr ⟨Int.le_refl _, h1, h, fun e h1 h2 => absurd h2 (by omega)⟩
theorem own_J_miss {G : Int → Int} {lo hi k r : Int} (h : ¬ own_P G lo hi k) (hJ : own_J G lo hi (k + 1) r) : own_J G lo hi k r := by
  rcases hJ with ⟨h1, h2⟩ | ⟨h1, h2, h3, h4⟩
  · exact Or.inl ⟨h1, fun e q1 q2 => if q : e = k then q ▸ h else h2 e (by omega) q2⟩
  · exact Or.inr ⟨by omega, h2, h3, fun e q1 q2 => if q : e = k then q ▸ h else h4 e (by omega) q2⟩
theorem own_J_start {G : Int → Int} {lo hi : Int} : own_J G lo hi 9 (-1) := Or.inl ⟨rfl, fun e h1 h2 => absurd h2 (by omega)⟩
theorem own_J_eq {G : Int → Int} {lo hi r q : Int} (h0 : 0 ≤ lo) (h1 : hi ≤ 8) (hJ : own_J G lo hi 2 r) (hq : (q = -1 ∧ ∀ e, ¬ own_P G lo hi e) ∨ (own_P G lo hi q ∧ ∀ e, e < q → ¬ own_P G lo hi e)) : q = r := by
  rcases hJ with ⟨h2, h3⟩ | ⟨h2, h3, h4, h5⟩ <;> rcases hq with ⟨h6, h7⟩ | ⟨h6, h7⟩
  · omega
  · exact absurd h6 (h3 q (by have := h6.2.1; omega) (by have := h6.1; omega))
  · exact absurd h4 (h7 r)
  · rcases Int.lt_trichotomy q r with h | h | h
    · exact absurd h6 (h5 q (by have := h6.2.1; omega) h)
    · exact h
    · exact absurd h4 (h7 r h)
def own_I (G : Int → Int) (lo hi i : Int) : Prop := ∀ e, own_P G lo hi e → (G (e - 2) = 10 ∧ i ≤ e - 2) ∨ (¬ G (e - 2) = 10 ∧ i ≤ e - 3)
theorem own_I_start {G : Int → Int} {lo hi : Int} : own_I G lo hi lo := fun e h => by unfold own_P at h; omega
theorem own_I_step {G : Int → Int} {lo hi i : Int} (hI : own_I G lo hi i) (no : ¬ (G i = 10 ∧ (i + 1 < hi ∧ G (i + 1) = 10 ∨ i + 2 < hi ∧ G (i + 1) = 13 ∧ G (i + 2) = 10))) : own_I G lo hi (i + 1) := fun e h => by
  have h1 := hI e h
  unfold own_P at h
  by_cases u : e = i + 2
  · subst u
    rw [show i + 2 - 1 = i + 1 by omega, show i + 2 - 2 = i by omega, show i + 2 - 3 = i - 1 by omega] at *
    omega
  · by_cases w : e = i + 3
    · subst w
      rw [show i + 3 - 1 = i + 2 by omega, show i + 3 - 2 = i + 1 by omega, show i + 3 - 3 = i by omega] at *
      omega
    · omega
theorem own_ret2 {G : Int → Int} {lo hi i : Int} (hI : own_I G lo hi i) (h0 : lo ≤ i) (h1 : G i = 10) (h2 : i + 1 < hi) (h3 : G (i + 1) = 10) : own_P G lo hi (i + 2) ∧ ∀ e, e < i + 2 → ¬ own_P G lo hi e := by
  refine ⟨?_, fun e he h => by have := hI e h; omega⟩
  unfold own_P
  rw [show i + 2 - 1 = i + 1 by omega, show i + 2 - 2 = i by omega]
  omega
theorem own_ret3 {G : Int → Int} {lo hi i : Int} (hI : own_I G lo hi i) (h0 : lo ≤ i) (h1 : G i = 10) (h2 : i + 2 < hi) (h3 : G (i + 1) = 13) (h4 : G (i + 2) = 10) : own_P G lo hi (i + 3) ∧ ∀ e, e < i + 3 → ¬ own_P G lo hi e := by
  constructor
  · unfold own_P
    rw [show i + 3 - 1 = i + 2 by omega, show i + 3 - 2 = i + 1 by omega, show i + 3 - 3 = i by omega]
    omega
  · intro e he h
    have h5 := hI e h
    unfold own_P at h
    by_cases u : e = i + 2
    · subst u
      rw [show i + 2 - 1 = i + 1 by omega, show i + 2 - 2 = i by omega, show i + 2 - 3 = i - 1 by omega] at *
      omega
    · omega
theorem own_retm {G : Int → Int} {lo hi i : Int} (hI : own_I G lo hi i) (h : hi ≤ i) : ∀ e, ¬ own_P G lo hi e := fun e q => by
  have h1 := hI e q
  unfold own_P at q
  omega
theorem own_yes {r : Int} {P : Prop} (h : r = 1 ∧ P ∨ r = 0 ∧ ¬ P) (c : ¬ r = 0) : P := h.elim (fun q => q.2) (fun q => absurd q.1 c)
theorem own_no {r : Int} {P : Prop} (h : r = 1 ∧ P ∨ r = 0 ∧ ¬ P) (c : r = 0) : ¬ P := h.elim (fun q => absurd (c.symm.trans q.1) (by decide)) (fun q => q.2)
theorem dP_0 : decode method_3_code 0 = .ok (.iload_n 0, 1) := by decide +kernel
theorem dP_1 : decode method_3_code 1 = .ok (.iconst 2, 1) := by decide +kernel
theorem dP_2 : decode method_3_code 2 = .ok (.iload_n 3, 1) := by decide +kernel
theorem dP_3 : decode method_3_code 3 = .ok (.imul, 1) := by decide +kernel
theorem dP_4 : decode method_3_code 4 = .ok (.iushr, 1) := by decide +kernel
theorem dP_5 : decode method_3_code 5 = .ok (.iconst 3, 1) := by decide +kernel
theorem dP_6 : decode method_3_code 6 = .ok (.iand, 1) := by decide +kernel
theorem dP_7 : decode method_3_code 7 = .ok (.istore 4, 2) := by decide +kernel
theorem dP_9 : decode method_3_code 9 = .ok (.iload 4, 2) := by decide +kernel
theorem dP_11 : decode method_3_code 11 = .ok (.ifCond .ne 6, 3) := by decide +kernel
theorem dP_14 : decode method_3_code 14 = .ok (.bipush 10, 2) := by decide +kernel
theorem dP_16 : decode method_3_code 16 = .ok (.ireturn, 1) := by decide +kernel
theorem dP_17 : decode method_3_code 17 = .ok (.iload 4, 2) := by decide +kernel
theorem dP_19 : decode method_3_code 19 = .ok (.iconst 1, 1) := by decide +kernel
theorem dP_20 : decode method_3_code 20 = .ok (.if_icmp .ne 6, 3) := by decide +kernel
theorem dP_23 : decode method_3_code 23 = .ok (.bipush 13, 2) := by decide +kernel
theorem dP_25 : decode method_3_code 25 = .ok (.ireturn, 1) := by decide +kernel
theorem dP_26 : decode method_3_code 26 = .ok (.lload_n 1, 1) := by decide +kernel
theorem dP_27 : decode method_3_code 27 = .ok (.bipush 8, 2) := by decide +kernel
theorem dP_29 : decode method_3_code 29 = .ok (.iload_n 3, 1) := by decide +kernel
theorem dP_30 : decode method_3_code 30 = .ok (.imul, 1) := by decide +kernel
theorem dP_31 : decode method_3_code 31 = .ok (.lushr, 1) := by decide +kernel
theorem dP_32 : decode method_3_code 32 = .ok (.l2i, 1) := by decide +kernel
theorem dP_33 : decode method_3_code 33 = .ok (.i2b, 1) := by decide +kernel
theorem dP_34 : decode method_3_code 34 = .ok (.ireturn, 1) := by decide +kernel
theorem pfP : plainFor (⟨"com/example/lease_lock_service/leaselockservice/http/RequestHeadEndPinLaw", "pick", "(IJI)B"⟩ : MethodName) = true := by decide +kernel
theorem efP (m : MethodId) (q1 : Int32) (q2 : Int64) (q3 : Int32) : entryFrame m #[(.int q1), (.long q2), (.int q3)] 5 = (mkF m 0 #[.val (.int q1), .val (.long q2), .second, .val (.int q3), .unset] []) := by first | rfl | (simp [entryFrame, mkF, argsToLocals, Value.category, maxLocals]; done)
def QP (Z : State) (q1 : Int32) (q2 : Int64) (q3 : Int32) (h0 : Heap) (n0 : Nat) (v : Option Value) (h : Heap) (L : List Loc) : Prop := (∃ r : Int32, v = some (.int r) ∧ True) ∧ Fr n0 L ∧ h = h0
set_option maxRecDepth 65536 in
set_option maxHeartbeats 40000000 in
theorem rmP (l : Launch) (Z : State) (a0 : Array Value) (hw : ∀ d ∈ tables_1, d.before a0 Z = true) (ws : List Jvm.Cond) (q1 : Int32) (q2 : Int64) (q3 : Int32) (h0 : Heap) (n0 : Nat) (Z0 : n0 ≤ h0.size) :
    MetFree l (⟨"com/example/lease_lock_service/leaselockservice/http/RequestHeadEndPinLaw", "pick", "(IJI)B"⟩ : MethodName) (head1 (Jvm.Cond.code (⟨"com/example/lease_lock_service/leaselockservice/http/RequestHeadEndPinLaw", "pick", "(IJI)B"⟩ : MethodName) method_3_code 5 (some Jvm.ClassFile.FieldType.byte) :: ws) ({ frames := 0, cells := 0, slots := 0, locals := 0 } : Room)) (fun aa U => aa = #[(.int q1), (.long q2), (.int q3)] ∧ Z.Warmed39 U.vm ∧ U.heap = h0) (fun _ _ _ _ _ => True) (fun _ U o U' => ∃ v L, o = .returned v ∧ QP Z q1 q2 q3 h0 n0 v U'.heap L ∧ FrameEnd U o U' L ({ frames := 0, cells := 0, slots := 0, locals := 0 } : Room).cells ({ frames := 0, cells := 0, slots := 0, locals := 0 } : Room).slots) := by
  refine own_met pfP ?_
  intro p e s m below meth c T0 hx hby hml hown hret hlk hnm hZ X0 e0
  have N0 := Fr.nil n0
  rw [efP]
  refine own_go (mkF m 1 #[.val (.int q1), .val (.long q2), .second, .val (.int q3), .unset] [(.int q1)]) (fun t k => XS.iloadN X0.here hx rfl (hb hby dP_0) rfl k) ?_
  refine own_go (mkF m 2 #[.val (.int q1), .val (.long q2), .second, .val (.int q3), .unset] [(.int (2 : Int32)), (.int q1)]) (fun t k => XS.iconst X0.here hx rfl (hb hby dP_1) k) ?_
  refine own_go (mkF m 3 #[.val (.int q1), .val (.long q2), .second, .val (.int q3), .unset] [(.int q3), (.int (2 : Int32)), (.int q1)]) (fun t k => XS.iloadN X0.here hx rfl (hb hby dP_2) rfl k) ?_
  refine own_go (mkF m 4 #[.val (.int q1), .val (.long q2), .second, .val (.int q3), .unset] [(.int ((2 : Int32) * q3)), (.int q1)]) (fun t k => XS.imul X0.here hx rfl (hb hby dP_3) rfl k) ?_
  generalize hv3 : ((2 : Int32) * q3) = v3
  refine own_go (mkF m 5 #[.val (.int q1), .val (.long q2), .second, .val (.int q3), .unset] [(.int ((q1.toUInt32 >>> (v3 &&& 31).toUInt32).toInt32))]) (fun t k => XS.iushr X0.here hx rfl (hb hby dP_4) rfl k) ?_
  generalize hv4 : ((q1.toUInt32 >>> (v3 &&& 31).toUInt32).toInt32) = v4
  refine own_go (mkF m 6 #[.val (.int q1), .val (.long q2), .second, .val (.int q3), .unset] [(.int (3 : Int32)), (.int v4)]) (fun t k => XS.iconst X0.here hx rfl (hb hby dP_5) k) ?_
  refine own_go (mkF m 7 #[.val (.int q1), .val (.long q2), .second, .val (.int q3), .unset] [(.int (v4 &&& (3 : Int32)))]) (fun t k => XS.iand X0.here hx rfl (hb hby dP_6) rfl k) ?_
  generalize hv6 : (v4 &&& (3 : Int32)) = v6
  refine own_go (mkF m 9 #[.val (.int q1), .val (.long q2), .second, .val (.int q3), .val (.int v6)] []) (fun t k => XS.istore X0.here hx rfl (hb hby dP_7) rfl (l' := #[.val (.int q1), .val (.long q2), .second, .val (.int q3), .val (.int v6)]) rfl k) ?_
  refine own_go (mkF m 11 #[.val (.int q1), .val (.long q2), .second, .val (.int q3), .val (.int v6)] [(.int v6)]) (fun t k => XS.iload X0.here hx rfl (hb hby dP_9) rfl k) ?_
  by_cases c11 : v6.toInt = 0
  · skip
    refine own_go (mkF m 14 #[.val (.int q1), .val (.long q2), .second, .val (.int q3), .val (.int v6)] []) (fun t k => XS.ifNo X0.here hx rfl (hb hby dP_11) rfl (own_zF (cd := .ne) (fun q => q c11)) k) ?_
    refine own_go (mkF m 16 #[.val (.int q1), .val (.long q2), .second, .val (.int q3), .val (.int v6)] [(.int (10 : Int32))]) (fun t k => XS.bipush X0.here hx rfl (hb hby dP_14) k) ?_
    refine own_retN X0 hx hlk hret (by simp) (hb hby dP_16) (by decide) (by decide) ?_
    rw [e0]
    exact ⟨⟨_, rfl, trivial⟩, N0, rfl⟩
  · skip
    refine own_go (mkF m 17 #[.val (.int q1), .val (.long q2), .second, .val (.int q3), .val (.int v6)] []) (fun t k => XS.ifYes X0.here hx rfl (pc0 := 11) (pc' := 17) rfl (hb hby dP_11) rfl (own_zT (cd := .ne) c11) (by decide) (by decide) k) ?_
    refine own_go (mkF m 19 #[.val (.int q1), .val (.long q2), .second, .val (.int q3), .val (.int v6)] [(.int v6)]) (fun t k => XS.iload X0.here hx rfl (hb hby dP_17) rfl k) ?_
    refine own_go (mkF m 20 #[.val (.int q1), .val (.long q2), .second, .val (.int q3), .val (.int v6)] [(.int (1 : Int32)), (.int v6)]) (fun t k => XS.iconst X0.here hx rfl (hb hby dP_19) k) ?_
    by_cases c20 : v6.toInt = 1
    · skip
      refine own_go (mkF m 23 #[.val (.int q1), .val (.long q2), .second, .val (.int q3), .val (.int v6)] []) (fun t k => XS.icmpNo X0.here hx rfl (hb hby dP_20) rfl (own_icF (cd := .ne) (fun q => q c20)) k) ?_
      refine own_go (mkF m 25 #[.val (.int q1), .val (.long q2), .second, .val (.int q3), .val (.int v6)] [(.int (13 : Int32))]) (fun t k => XS.bipush X0.here hx rfl (hb hby dP_23) k) ?_
      refine own_retN X0 hx hlk hret (by simp) (hb hby dP_25) (by decide) (by decide) ?_
      rw [e0]
      exact ⟨⟨_, rfl, trivial⟩, N0, rfl⟩
    · skip
      refine own_go (mkF m 26 #[.val (.int q1), .val (.long q2), .second, .val (.int q3), .val (.int v6)] []) (fun t k => XS.icmpYes X0.here hx rfl (pc0 := 20) (pc' := 26) rfl (hb hby dP_20) rfl (own_icT (cd := .ne) c20) (by decide) (by decide) k) ?_
      refine own_go (mkF m 27 #[.val (.int q1), .val (.long q2), .second, .val (.int q3), .val (.int v6)] [(.long q2)]) (fun t k => XS.lloadN X0.here hx rfl (hb hby dP_26) rfl k) ?_
      refine own_go (mkF m 29 #[.val (.int q1), .val (.long q2), .second, .val (.int q3), .val (.int v6)] [(.int (8 : Int32)), (.long q2)]) (fun t k => XS.bipush X0.here hx rfl (hb hby dP_27) k) ?_
      refine own_go (mkF m 30 #[.val (.int q1), .val (.long q2), .second, .val (.int q3), .val (.int v6)] [(.int q3), (.int (8 : Int32)), (.long q2)]) (fun t k => XS.iloadN X0.here hx rfl (hb hby dP_29) rfl k) ?_
      refine own_go (mkF m 31 #[.val (.int q1), .val (.long q2), .second, .val (.int q3), .val (.int v6)] [(.int ((8 : Int32) * q3)), (.long q2)]) (fun t k => XS.imul X0.here hx rfl (hb hby dP_30) rfl k) ?_
      generalize hv30 : ((8 : Int32) * q3) = v30
      refine own_go (mkF m 32 #[.val (.int q1), .val (.long q2), .second, .val (.int q3), .val (.int v6)] [(.long ((q2.toUInt64 >>> (v30 &&& 0x3f).toInt64.toUInt64).toInt64))]) (fun t k => XS.lushr X0.here hx rfl (hb hby dP_31) rfl k) ?_
      generalize hv31 : ((q2.toUInt64 >>> (v30 &&& 0x3f).toInt64.toUInt64).toInt64) = v31
      refine own_go (mkF m 33 #[.val (.int q1), .val (.long q2), .second, .val (.int q3), .val (.int v6)] [(.int (v31.toInt32))]) (fun t k => XS.l2i X0.here hx rfl (hb hby dP_32) rfl k) ?_
      generalize hv32 : (v31.toInt32) = v32
      refine own_go (mkF m 34 #[.val (.int q1), .val (.long q2), .second, .val (.int q3), .val (.int v6)] [(.int (v32.toInt8.toInt32))]) (fun t k => XS.i2b X0.here hx rfl (hb hby dP_33) rfl k) ?_
      generalize hv33 : (v32.toInt8.toInt32) = v33
      refine own_retN X0 hx hlk hret (by simp) (hb hby dP_34) (by decide) (by decide) ?_
      rw [e0]
      exact ⟨⟨_, rfl, trivial⟩, N0, rfl⟩
theorem dE_0 : decode method_4_code 0 = .ok (.iload_n 3, 1) := by decide +kernel
theorem dE_1 : decode method_4_code 1 = .ok (.iload_n 2, 1) := by decide +kernel
theorem dE_2 : decode method_4_code 2 = .ok (.if_icmp .gt 10, 3) := by decide +kernel
theorem dE_5 : decode method_4_code 5 = .ok (.iload_n 3, 1) := by decide +kernel
theorem dE_6 : decode method_4_code 6 = .ok (.iload_n 1, 1) := by decide +kernel
theorem dE_7 : decode method_4_code 7 = .ok (.iconst 2, 1) := by decide +kernel
theorem dE_8 : decode method_4_code 8 = .ok (.iadd, 1) := by decide +kernel
theorem dE_9 : decode method_4_code 9 = .ok (.if_icmp .ge 5, 3) := by decide +kernel
theorem dE_12 : decode method_4_code 12 = .ok (.iconst 0, 1) := by decide +kernel
theorem dE_13 : decode method_4_code 13 = .ok (.ireturn, 1) := by decide +kernel
theorem dE_14 : decode method_4_code 14 = .ok (.aload_n 0, 1) := by decide +kernel
theorem dE_15 : decode method_4_code 15 = .ok (.iload_n 3, 1) := by decide +kernel
theorem dE_16 : decode method_4_code 16 = .ok (.iconst 1, 1) := by decide +kernel
theorem dE_17 : decode method_4_code 17 = .ok (.isub, 1) := by decide +kernel
theorem dE_18 : decode method_4_code 18 = .ok (.baload, 1) := by decide +kernel
theorem dE_19 : decode method_4_code 19 = .ok (.bipush 10, 2) := by decide +kernel
theorem dE_21 : decode method_4_code 21 = .ok (.if_icmp .eq 5, 3) := by decide +kernel
theorem dE_24 : decode method_4_code 24 = .ok (.iconst 0, 1) := by decide +kernel
theorem dE_25 : decode method_4_code 25 = .ok (.ireturn, 1) := by decide +kernel
theorem dE_26 : decode method_4_code 26 = .ok (.aload_n 0, 1) := by decide +kernel
theorem dE_27 : decode method_4_code 27 = .ok (.iload_n 3, 1) := by decide +kernel
theorem dE_28 : decode method_4_code 28 = .ok (.iconst 2, 1) := by decide +kernel
theorem dE_29 : decode method_4_code 29 = .ok (.isub, 1) := by decide +kernel
theorem dE_30 : decode method_4_code 30 = .ok (.baload, 1) := by decide +kernel
theorem dE_31 : decode method_4_code 31 = .ok (.bipush 10, 2) := by decide +kernel
theorem dE_33 : decode method_4_code 33 = .ok (.if_icmp .ne 5, 3) := by decide +kernel
theorem dE_36 : decode method_4_code 36 = .ok (.iconst 1, 1) := by decide +kernel
theorem dE_37 : decode method_4_code 37 = .ok (.ireturn, 1) := by decide +kernel
theorem dE_38 : decode method_4_code 38 = .ok (.iload_n 3, 1) := by decide +kernel
theorem dE_39 : decode method_4_code 39 = .ok (.iconst 3, 1) := by decide +kernel
theorem dE_40 : decode method_4_code 40 = .ok (.isub, 1) := by decide +kernel
theorem dE_41 : decode method_4_code 41 = .ok (.iload_n 1, 1) := by decide +kernel
theorem dE_42 : decode method_4_code 42 = .ok (.if_icmp .lt 27, 3) := by decide +kernel
theorem dE_45 : decode method_4_code 45 = .ok (.aload_n 0, 1) := by decide +kernel
theorem dE_46 : decode method_4_code 46 = .ok (.iload_n 3, 1) := by decide +kernel
theorem dE_47 : decode method_4_code 47 = .ok (.iconst 2, 1) := by decide +kernel
theorem dE_48 : decode method_4_code 48 = .ok (.isub, 1) := by decide +kernel
theorem dE_49 : decode method_4_code 49 = .ok (.baload, 1) := by decide +kernel
theorem dE_50 : decode method_4_code 50 = .ok (.bipush 13, 2) := by decide +kernel
theorem dE_52 : decode method_4_code 52 = .ok (.if_icmp .ne 17, 3) := by decide +kernel
theorem dE_55 : decode method_4_code 55 = .ok (.aload_n 0, 1) := by decide +kernel
theorem dE_56 : decode method_4_code 56 = .ok (.iload_n 3, 1) := by decide +kernel
theorem dE_57 : decode method_4_code 57 = .ok (.iconst 3, 1) := by decide +kernel
theorem dE_58 : decode method_4_code 58 = .ok (.isub, 1) := by decide +kernel
theorem dE_59 : decode method_4_code 59 = .ok (.baload, 1) := by decide +kernel
theorem dE_60 : decode method_4_code 60 = .ok (.bipush 10, 2) := by decide +kernel
theorem dE_62 : decode method_4_code 62 = .ok (.if_icmp .ne 7, 3) := by decide +kernel
theorem dE_65 : decode method_4_code 65 = .ok (.iconst 1, 1) := by decide +kernel
theorem dE_66 : decode method_4_code 66 = .ok (.goto 4, 3) := by decide +kernel
theorem dE_69 : decode method_4_code 69 = .ok (.iconst 0, 1) := by decide +kernel
theorem dE_70 : decode method_4_code 70 = .ok (.ireturn, 1) := by decide +kernel
theorem pfE : plainFor (⟨"com/example/lease_lock_service/leaselockservice/http/RequestHeadEndPinLaw", "endsAt", "([BIII)Z"⟩ : MethodName) = true := by decide +kernel
theorem efE (m : MethodId) (a : Addr) (q1 : Int32) (q2 : Int32) (q3 : Int32) : entryFrame m #[(.ref a), (.int q1), (.int q2), (.int q3)] 4 = (mkF m 0 #[.val (.ref a), .val (.int q1), .val (.int q2), .val (.int q3)] []) := by first | rfl | (simp [entryFrame, mkF, argsToLocals, Value.category, maxLocals]; done)
def QE (Z : State) (a : Addr) (q1 : Int32) (q2 : Int32) (q3 : Int32) (F : Nat → Int32) (h0 : Heap) (n0 : Nat) (v : Option Value) (h : Heap) (L : List Loc) : Prop := (∃ r : Int32, v = some (.int r) ∧ (r.toInt = 1 ∧ own_P (own_G F) q1.toInt q2.toInt q3.toInt ∨ r.toInt = 0 ∧ ¬ own_P (own_G F) q1.toInt q2.toInt q3.toInt)) ∧ Fr n0 L ∧ h = h0
set_option maxRecDepth 65536 in
set_option maxHeartbeats 40000000 in
theorem rmE (l : Launch) (Z : State) (a0 : Array Value) (hw : ∀ d ∈ tables_1, d.before a0 Z = true) (ws : List Jvm.Cond) (a : Addr) (q1 : Int32) (q2 : Int32) (q3 : Int32) (F : Nat → Int32) (h0 : Heap) (n0 : Nat) (Z0 : n0 ≤ h0.size) (A_a : own_AI Z h0 a .byte 8 F) (hp : 0 ≤ q1.toInt ∧ q1.toInt ≤ 8 ∧ q2.toInt ≤ 8 ∧ 2 ≤ q3.toInt ∧ q3.toInt ≤ 8) :
    MetFree l (⟨"com/example/lease_lock_service/leaselockservice/http/RequestHeadEndPinLaw", "endsAt", "([BIII)Z"⟩ : MethodName) (head1 (Jvm.Cond.code (⟨"com/example/lease_lock_service/leaselockservice/http/RequestHeadEndPinLaw", "endsAt", "([BIII)Z"⟩ : MethodName) method_4_code 4 (some Jvm.ClassFile.FieldType.boolean) :: ws) ({ frames := 0, cells := 0, slots := 0, locals := 0 } : Room)) (fun aa U => aa = #[(.ref a), (.int q1), (.int q2), (.int q3)] ∧ Z.Warmed39 U.vm ∧ U.heap = h0) (fun _ _ _ _ _ => True) (fun _ U o U' => ∃ v L, o = .returned v ∧ QE Z a q1 q2 q3 F h0 n0 v U'.heap L ∧ FrameEnd U o U' L ({ frames := 0, cells := 0, slots := 0, locals := 0 } : Room).cells ({ frames := 0, cells := 0, slots := 0, locals := 0 } : Room).slots) := by
  refine own_met pfE ?_
  intro p e s m below meth c T0 hx hby hml hown hret hlk hnm hZ X0 e0
  have N0 := Fr.nil n0
  have r_q1 := rng32 q1
  have r_q2 := rng32 q2
  have r_q3 := rng32 q3
  rw [efE]
  refine own_go (mkF m 1 #[.val (.ref a), .val (.int q1), .val (.int q2), .val (.int q3)] [(.int q3)]) (fun t k => XS.iloadN X0.here hx rfl (hb hby dE_0) rfl k) ?_
  refine own_go (mkF m 2 #[.val (.ref a), .val (.int q1), .val (.int q2), .val (.int q3)] [(.int q2), (.int q3)]) (fun t k => XS.iloadN X0.here hx rfl (hb hby dE_1) rfl k) ?_
  by_cases c2 : q2.toInt < q3.toInt
  · skip
    refine own_go (mkF m 12 #[.val (.ref a), .val (.int q1), .val (.int q2), .val (.int q3)] []) (fun t k => XS.icmpYes X0.here hx rfl (pc0 := 2) (pc' := 12) rfl (hb hby dE_2) rfl (own_icT (cd := .gt) c2) (by decide) (by decide) k) ?_
    refine own_go (mkF m 13 #[.val (.ref a), .val (.int q1), .val (.int q2), .val (.int q3)] [(.int (0 : Int32))]) (fun t k => XS.iconst X0.here hx rfl (hb hby dE_12) k) ?_
    refine own_retI X0 hx hlk hret (by simp) rfl (hb hby dE_13) (by decide) (by decide) ?_
    rw [e0]
    refine ⟨⟨_, rfl, Or.inr ⟨rfl, ?_⟩⟩, N0, rfl⟩
    unfold own_P
    omega
  · skip
    refine own_go (mkF m 5 #[.val (.ref a), .val (.int q1), .val (.int q2), .val (.int q3)] []) (fun t k => XS.icmpNo X0.here hx rfl (hb hby dE_2) rfl (own_icF (cd := .gt) c2) k) ?_
    refine own_go (mkF m 6 #[.val (.ref a), .val (.int q1), .val (.int q2), .val (.int q3)] [(.int q3)]) (fun t k => XS.iloadN X0.here hx rfl (hb hby dE_5) rfl k) ?_
    refine own_go (mkF m 7 #[.val (.ref a), .val (.int q1), .val (.int q2), .val (.int q3)] [(.int q1), (.int q3)]) (fun t k => XS.iloadN X0.here hx rfl (hb hby dE_6) rfl k) ?_
    refine own_go (mkF m 8 #[.val (.ref a), .val (.int q1), .val (.int q2), .val (.int q3)] [(.int (2 : Int32)), (.int q1), (.int q3)]) (fun t k => XS.iconst X0.here hx rfl (hb hby dE_7) k) ?_
    refine own_go (mkF m 9 #[.val (.ref a), .val (.int q1), .val (.int q2), .val (.int q3)] [(.int (q1 + (2 : Int32))), (.int q3)]) (fun t k => XS.iadd X0.here hx rfl (hb hby dE_8) rfl k) ?_
    generalize hv8 : (q1 + (2 : Int32)) = v8
    have f8 : (v8.toInt - (q1.toInt + 2)) % 4294967296 = 0 := by rw [← hv8]; exact c_iadd q1 (2 : Int32)
    have r8 := rng32 v8
    by_cases c9 : v8.toInt ≤ q3.toInt
    · skip
      refine own_go (mkF m 14 #[.val (.ref a), .val (.int q1), .val (.int q2), .val (.int q3)] []) (fun t k => XS.icmpYes X0.here hx rfl (pc0 := 9) (pc' := 14) rfl (hb hby dE_9) rfl (own_icT (cd := .ge) c9) (by decide) (by decide) k) ?_
      refine own_go (mkF m 15 #[.val (.ref a), .val (.int q1), .val (.int q2), .val (.int q3)] [(.ref a)]) (fun t k => XS.aloadN X0.here hx rfl (hb hby dE_14) rfl rfl k) ?_
      refine own_go (mkF m 16 #[.val (.ref a), .val (.int q1), .val (.int q2), .val (.int q3)] [(.int q3), (.ref a)]) (fun t k => XS.iloadN X0.here hx rfl (hb hby dE_15) rfl k) ?_
      refine own_go (mkF m 17 #[.val (.ref a), .val (.int q1), .val (.int q2), .val (.int q3)] [(.int (1 : Int32)), (.int q3), (.ref a)]) (fun t k => XS.iconst X0.here hx rfl (hb hby dE_16) k) ?_
      refine own_go (mkF m 18 #[.val (.ref a), .val (.int q1), .val (.int q2), .val (.int q3)] [(.int (q3 - (1 : Int32))), (.ref a)]) (fun t k => XS.isub X0.here hx rfl (hb hby dE_17) rfl k) ?_
      generalize hv17 : (q3 - (1 : Int32)) = v17
      have f17 : (v17.toInt - (q3.toInt - 1)) % 4294967296 = 0 := by rw [← hv17]; exact c_isub q3 (1 : Int32)
      have r17 := rng32 v17
      refine own_baload X0 hx hZ e0 A_a (j := v17) (by omega) (by show (v17.toInt : Int) < _; omega) (g := (mkF m 18 #[.val (.ref a), .val (.int q1), .val (.int q2), .val (.int q3)] [(.int v17), (.ref a)])) rfl rfl (hb hby dE_18) ?_
      generalize hv18 : F v17.toInt.toNat = v18
      have r18 := rng32 v18
      show own_Ends p e below s ({ frames := 0, cells := 0, slots := 0, locals := 0 } : Room).cells ({ frames := 0, cells := 0, slots := 0, locals := 0 } : Room).slots (QE Z a q1 q2 q3 F h0 n0) T0 (mkF m 19 #[.val (.ref a), .val (.int q1), .val (.int q2), .val (.int q3)] [(.int v18)])
      have fg18 : own_G F (q3.toInt - 1) = v18.toInt := by unfold own_G; rw [← hv18, show q3.toInt - 1 = v17.toInt by omega]
      refine own_go (mkF m 21 #[.val (.ref a), .val (.int q1), .val (.int q2), .val (.int q3)] [(.int (10 : Int32)), (.int v18)]) (fun t k => XS.bipush X0.here hx rfl (hb hby dE_19) k) ?_
      by_cases c21 : v18.toInt = 10
      · skip
        refine own_go (mkF m 26 #[.val (.ref a), .val (.int q1), .val (.int q2), .val (.int q3)] []) (fun t k => XS.icmpYes X0.here hx rfl (pc0 := 21) (pc' := 26) rfl (hb hby dE_21) rfl (own_icT (cd := .eq) c21) (by decide) (by decide) k) ?_
        refine own_go (mkF m 27 #[.val (.ref a), .val (.int q1), .val (.int q2), .val (.int q3)] [(.ref a)]) (fun t k => XS.aloadN X0.here hx rfl (hb hby dE_26) rfl rfl k) ?_
        refine own_go (mkF m 28 #[.val (.ref a), .val (.int q1), .val (.int q2), .val (.int q3)] [(.int q3), (.ref a)]) (fun t k => XS.iloadN X0.here hx rfl (hb hby dE_27) rfl k) ?_
        refine own_go (mkF m 29 #[.val (.ref a), .val (.int q1), .val (.int q2), .val (.int q3)] [(.int (2 : Int32)), (.int q3), (.ref a)]) (fun t k => XS.iconst X0.here hx rfl (hb hby dE_28) k) ?_
        refine own_go (mkF m 30 #[.val (.ref a), .val (.int q1), .val (.int q2), .val (.int q3)] [(.int (q3 - (2 : Int32))), (.ref a)]) (fun t k => XS.isub X0.here hx rfl (hb hby dE_29) rfl k) ?_
        generalize hv29 : (q3 - (2 : Int32)) = v29
        have f29 : (v29.toInt - (q3.toInt - 2)) % 4294967296 = 0 := by rw [← hv29]; exact c_isub q3 (2 : Int32)
        have r29 := rng32 v29
        refine own_baload X0 hx hZ e0 A_a (j := v29) (by omega) (by show (v29.toInt : Int) < _; omega) (g := (mkF m 30 #[.val (.ref a), .val (.int q1), .val (.int q2), .val (.int q3)] [(.int v29), (.ref a)])) rfl rfl (hb hby dE_30) ?_
        generalize hv30 : F v29.toInt.toNat = v30
        have r30 := rng32 v30
        show own_Ends p e below s ({ frames := 0, cells := 0, slots := 0, locals := 0 } : Room).cells ({ frames := 0, cells := 0, slots := 0, locals := 0 } : Room).slots (QE Z a q1 q2 q3 F h0 n0) T0 (mkF m 31 #[.val (.ref a), .val (.int q1), .val (.int q2), .val (.int q3)] [(.int v30)])
        have fg30 : own_G F (q3.toInt - 2) = v30.toInt := by unfold own_G; rw [← hv30, show q3.toInt - 2 = v29.toInt by omega]
        refine own_go (mkF m 33 #[.val (.ref a), .val (.int q1), .val (.int q2), .val (.int q3)] [(.int (10 : Int32)), (.int v30)]) (fun t k => XS.bipush X0.here hx rfl (hb hby dE_31) k) ?_
        by_cases c33 : v30.toInt = 10
        · skip
          refine own_go (mkF m 36 #[.val (.ref a), .val (.int q1), .val (.int q2), .val (.int q3)] []) (fun t k => XS.icmpNo X0.here hx rfl (hb hby dE_33) rfl (own_icF (cd := .ne) (fun q => q c33)) k) ?_
          refine own_go (mkF m 37 #[.val (.ref a), .val (.int q1), .val (.int q2), .val (.int q3)] [(.int (1 : Int32))]) (fun t k => XS.iconst X0.here hx rfl (hb hby dE_36) k) ?_
          refine own_retI X0 hx hlk hret (by simp) rfl (hb hby dE_37) (by decide) (by decide) ?_
          rw [e0]
          refine ⟨⟨_, rfl, Or.inl ⟨rfl, ?_⟩⟩, N0, rfl⟩
          unfold own_P
          omega
        · skip
          refine own_go (mkF m 38 #[.val (.ref a), .val (.int q1), .val (.int q2), .val (.int q3)] []) (fun t k => XS.icmpYes X0.here hx rfl (pc0 := 33) (pc' := 38) rfl (hb hby dE_33) rfl (own_icT (cd := .ne) c33) (by decide) (by decide) k) ?_
          refine own_go (mkF m 39 #[.val (.ref a), .val (.int q1), .val (.int q2), .val (.int q3)] [(.int q3)]) (fun t k => XS.iloadN X0.here hx rfl (hb hby dE_38) rfl k) ?_
          refine own_go (mkF m 40 #[.val (.ref a), .val (.int q1), .val (.int q2), .val (.int q3)] [(.int (3 : Int32)), (.int q3)]) (fun t k => XS.iconst X0.here hx rfl (hb hby dE_39) k) ?_
          refine own_go (mkF m 41 #[.val (.ref a), .val (.int q1), .val (.int q2), .val (.int q3)] [(.int (q3 - (3 : Int32)))]) (fun t k => XS.isub X0.here hx rfl (hb hby dE_40) rfl k) ?_
          generalize hv40 : (q3 - (3 : Int32)) = v40
          have f40 : (v40.toInt - (q3.toInt - 3)) % 4294967296 = 0 := by rw [← hv40]; exact c_isub q3 (3 : Int32)
          have r40 := rng32 v40
          refine own_go (mkF m 42 #[.val (.ref a), .val (.int q1), .val (.int q2), .val (.int q3)] [(.int q1), (.int v40)]) (fun t k => XS.iloadN X0.here hx rfl (hb hby dE_41) rfl k) ?_
          by_cases c42 : v40.toInt < q1.toInt
          · skip
            refine own_go (mkF m 69 #[.val (.ref a), .val (.int q1), .val (.int q2), .val (.int q3)] []) (fun t k => XS.icmpYes X0.here hx rfl (pc0 := 42) (pc' := 69) rfl (hb hby dE_42) rfl (own_icT (cd := .lt) c42) (by decide) (by decide) k) ?_
            refine own_go (mkF m 70 #[.val (.ref a), .val (.int q1), .val (.int q2), .val (.int q3)] [(.int (0 : Int32))]) (fun t k => XS.iconst X0.here hx rfl (hb hby dE_69) k) ?_
            refine own_retI X0 hx hlk hret (by simp) rfl (hb hby dE_70) (by decide) (by decide) ?_
            rw [e0]
            refine ⟨⟨_, rfl, Or.inr ⟨rfl, ?_⟩⟩, N0, rfl⟩
            unfold own_P
            omega
          · skip
            refine own_go (mkF m 45 #[.val (.ref a), .val (.int q1), .val (.int q2), .val (.int q3)] []) (fun t k => XS.icmpNo X0.here hx rfl (hb hby dE_42) rfl (own_icF (cd := .lt) c42) k) ?_
            refine own_go (mkF m 46 #[.val (.ref a), .val (.int q1), .val (.int q2), .val (.int q3)] [(.ref a)]) (fun t k => XS.aloadN X0.here hx rfl (hb hby dE_45) rfl rfl k) ?_
            refine own_go (mkF m 47 #[.val (.ref a), .val (.int q1), .val (.int q2), .val (.int q3)] [(.int q3), (.ref a)]) (fun t k => XS.iloadN X0.here hx rfl (hb hby dE_46) rfl k) ?_
            refine own_go (mkF m 48 #[.val (.ref a), .val (.int q1), .val (.int q2), .val (.int q3)] [(.int (2 : Int32)), (.int q3), (.ref a)]) (fun t k => XS.iconst X0.here hx rfl (hb hby dE_47) k) ?_
            refine own_go (mkF m 49 #[.val (.ref a), .val (.int q1), .val (.int q2), .val (.int q3)] [(.int (q3 - (2 : Int32))), (.ref a)]) (fun t k => XS.isub X0.here hx rfl (hb hby dE_48) rfl k) ?_
            generalize hv48 : (q3 - (2 : Int32)) = v48
            have f48 : (v48.toInt - (q3.toInt - 2)) % 4294967296 = 0 := by rw [← hv48]; exact c_isub q3 (2 : Int32)
            have r48 := rng32 v48
            refine own_baload X0 hx hZ e0 A_a (j := v48) (by omega) (by show (v48.toInt : Int) < _; omega) (g := (mkF m 49 #[.val (.ref a), .val (.int q1), .val (.int q2), .val (.int q3)] [(.int v48), (.ref a)])) rfl rfl (hb hby dE_49) ?_
            generalize hv49 : F v48.toInt.toNat = v49
            have r49 := rng32 v49
            show own_Ends p e below s ({ frames := 0, cells := 0, slots := 0, locals := 0 } : Room).cells ({ frames := 0, cells := 0, slots := 0, locals := 0 } : Room).slots (QE Z a q1 q2 q3 F h0 n0) T0 (mkF m 50 #[.val (.ref a), .val (.int q1), .val (.int q2), .val (.int q3)] [(.int v49)])
            have fg49 : own_G F (q3.toInt - 2) = v49.toInt := by unfold own_G; rw [← hv49, show q3.toInt - 2 = v48.toInt by omega]
            refine own_go (mkF m 52 #[.val (.ref a), .val (.int q1), .val (.int q2), .val (.int q3)] [(.int (13 : Int32)), (.int v49)]) (fun t k => XS.bipush X0.here hx rfl (hb hby dE_50) k) ?_
            by_cases c52 : v49.toInt = 13
            · skip
              refine own_go (mkF m 55 #[.val (.ref a), .val (.int q1), .val (.int q2), .val (.int q3)] []) (fun t k => XS.icmpNo X0.here hx rfl (hb hby dE_52) rfl (own_icF (cd := .ne) (fun q => q c52)) k) ?_
              refine own_go (mkF m 56 #[.val (.ref a), .val (.int q1), .val (.int q2), .val (.int q3)] [(.ref a)]) (fun t k => XS.aloadN X0.here hx rfl (hb hby dE_55) rfl rfl k) ?_
              refine own_go (mkF m 57 #[.val (.ref a), .val (.int q1), .val (.int q2), .val (.int q3)] [(.int q3), (.ref a)]) (fun t k => XS.iloadN X0.here hx rfl (hb hby dE_56) rfl k) ?_
              refine own_go (mkF m 58 #[.val (.ref a), .val (.int q1), .val (.int q2), .val (.int q3)] [(.int (3 : Int32)), (.int q3), (.ref a)]) (fun t k => XS.iconst X0.here hx rfl (hb hby dE_57) k) ?_
              refine own_go (mkF m 59 #[.val (.ref a), .val (.int q1), .val (.int q2), .val (.int q3)] [(.int (q3 - (3 : Int32))), (.ref a)]) (fun t k => XS.isub X0.here hx rfl (hb hby dE_58) rfl k) ?_
              generalize hv58 : (q3 - (3 : Int32)) = v58
              have f58 : (v58.toInt - (q3.toInt - 3)) % 4294967296 = 0 := by rw [← hv58]; exact c_isub q3 (3 : Int32)
              have r58 := rng32 v58
              refine own_baload X0 hx hZ e0 A_a (j := v58) (by omega) (by show (v58.toInt : Int) < _; omega) (g := (mkF m 59 #[.val (.ref a), .val (.int q1), .val (.int q2), .val (.int q3)] [(.int v58), (.ref a)])) rfl rfl (hb hby dE_59) ?_
              generalize hv59 : F v58.toInt.toNat = v59
              have r59 := rng32 v59
              show own_Ends p e below s ({ frames := 0, cells := 0, slots := 0, locals := 0 } : Room).cells ({ frames := 0, cells := 0, slots := 0, locals := 0 } : Room).slots (QE Z a q1 q2 q3 F h0 n0) T0 (mkF m 60 #[.val (.ref a), .val (.int q1), .val (.int q2), .val (.int q3)] [(.int v59)])
              have fg59 : own_G F (q3.toInt - 3) = v59.toInt := by unfold own_G; rw [← hv59, show q3.toInt - 3 = v58.toInt by omega]
              refine own_go (mkF m 62 #[.val (.ref a), .val (.int q1), .val (.int q2), .val (.int q3)] [(.int (10 : Int32)), (.int v59)]) (fun t k => XS.bipush X0.here hx rfl (hb hby dE_60) k) ?_
              by_cases c62 : v59.toInt = 10
              · skip
                refine own_go (mkF m 65 #[.val (.ref a), .val (.int q1), .val (.int q2), .val (.int q3)] []) (fun t k => XS.icmpNo X0.here hx rfl (hb hby dE_62) rfl (own_icF (cd := .ne) (fun q => q c62)) k) ?_
                refine own_go (mkF m 66 #[.val (.ref a), .val (.int q1), .val (.int q2), .val (.int q3)] [(.int (1 : Int32))]) (fun t k => XS.iconst X0.here hx rfl (hb hby dE_65) k) ?_
                refine own_go (mkF m 70 #[.val (.ref a), .val (.int q1), .val (.int q2), .val (.int q3)] [(.int (1 : Int32))]) (fun t k => XS.goto X0.here hx rfl (pc0 := 66) (pc' := 70) rfl (hb hby dE_66) (by decide) (by decide) k) ?_
                refine own_retI X0 hx hlk hret (by simp) rfl (hb hby dE_70) (by decide) (by decide) ?_
                rw [e0]
                refine ⟨⟨_, rfl, Or.inl ⟨rfl, ?_⟩⟩, N0, rfl⟩
                unfold own_P
                omega
              · skip
                refine own_go (mkF m 69 #[.val (.ref a), .val (.int q1), .val (.int q2), .val (.int q3)] []) (fun t k => XS.icmpYes X0.here hx rfl (pc0 := 62) (pc' := 69) rfl (hb hby dE_62) rfl (own_icT (cd := .ne) c62) (by decide) (by decide) k) ?_
                refine own_go (mkF m 70 #[.val (.ref a), .val (.int q1), .val (.int q2), .val (.int q3)] [(.int (0 : Int32))]) (fun t k => XS.iconst X0.here hx rfl (hb hby dE_69) k) ?_
                refine own_retI X0 hx hlk hret (by simp) rfl (hb hby dE_70) (by decide) (by decide) ?_
                rw [e0]
                refine ⟨⟨_, rfl, Or.inr ⟨rfl, ?_⟩⟩, N0, rfl⟩
                unfold own_P
                omega
            · skip
              refine own_go (mkF m 69 #[.val (.ref a), .val (.int q1), .val (.int q2), .val (.int q3)] []) (fun t k => XS.icmpYes X0.here hx rfl (pc0 := 52) (pc' := 69) rfl (hb hby dE_52) rfl (own_icT (cd := .ne) c52) (by decide) (by decide) k) ?_
              refine own_go (mkF m 70 #[.val (.ref a), .val (.int q1), .val (.int q2), .val (.int q3)] [(.int (0 : Int32))]) (fun t k => XS.iconst X0.here hx rfl (hb hby dE_69) k) ?_
              refine own_retI X0 hx hlk hret (by simp) rfl (hb hby dE_70) (by decide) (by decide) ?_
              rw [e0]
              refine ⟨⟨_, rfl, Or.inr ⟨rfl, ?_⟩⟩, N0, rfl⟩
              unfold own_P
              omega
      · skip
        refine own_go (mkF m 24 #[.val (.ref a), .val (.int q1), .val (.int q2), .val (.int q3)] []) (fun t k => XS.icmpNo X0.here hx rfl (hb hby dE_21) rfl (own_icF (cd := .eq) c21) k) ?_
        refine own_go (mkF m 25 #[.val (.ref a), .val (.int q1), .val (.int q2), .val (.int q3)] [(.int (0 : Int32))]) (fun t k => XS.iconst X0.here hx rfl (hb hby dE_24) k) ?_
        refine own_retI X0 hx hlk hret (by simp) rfl (hb hby dE_25) (by decide) (by decide) ?_
        rw [e0]
        refine ⟨⟨_, rfl, Or.inr ⟨rfl, ?_⟩⟩, N0, rfl⟩
        unfold own_P
        omega
    · skip
      refine own_go (mkF m 12 #[.val (.ref a), .val (.int q1), .val (.int q2), .val (.int q3)] []) (fun t k => XS.icmpNo X0.here hx rfl (hb hby dE_9) rfl (own_icF (cd := .ge) c9) k) ?_
      refine own_go (mkF m 13 #[.val (.ref a), .val (.int q1), .val (.int q2), .val (.int q3)] [(.int (0 : Int32))]) (fun t k => XS.iconst X0.here hx rfl (hb hby dE_12) k) ?_
      refine own_retI X0 hx hlk hret (by simp) rfl (hb hby dE_13) (by decide) (by decide) ?_
      rw [e0]
      refine ⟨⟨_, rfl, Or.inr ⟨rfl, ?_⟩⟩, N0, rfl⟩
      unfold own_P
      omega
theorem dD_0 : decode prog_29_method_2_code 0 = .ok (.iload_n 1, 1) := by decide +kernel
theorem dD_1 : decode prog_29_method_2_code 1 = .ok (.istore_n 3, 1) := by decide +kernel
theorem dD_2 : decode prog_29_method_2_code 2 = .ok (.iload_n 3, 1) := by decide +kernel
theorem dD_3 : decode prog_29_method_2_code 3 = .ok (.iload_n 2, 1) := by decide +kernel
theorem dD_4 : decode prog_29_method_2_code 4 = .ok (.if_icmp .ge 69, 3) := by decide +kernel
theorem dD_7 : decode prog_29_method_2_code 7 = .ok (.aload_n 0, 1) := by decide +kernel
theorem dD_8 : decode prog_29_method_2_code 8 = .ok (.iload_n 3, 1) := by decide +kernel
theorem dD_9 : decode prog_29_method_2_code 9 = .ok (.baload, 1) := by decide +kernel
theorem dD_10 : decode prog_29_method_2_code 10 = .ok (.bipush 10, 2) := by decide +kernel
theorem dD_12 : decode prog_29_method_2_code 12 = .ok (.if_icmp .ne 55, 3) := by decide +kernel
theorem dD_15 : decode prog_29_method_2_code 15 = .ok (.iload_n 3, 1) := by decide +kernel
theorem dD_16 : decode prog_29_method_2_code 16 = .ok (.iconst 1, 1) := by decide +kernel
theorem dD_17 : decode prog_29_method_2_code 17 = .ok (.iadd, 1) := by decide +kernel
theorem dD_18 : decode prog_29_method_2_code 18 = .ok (.iload_n 2, 1) := by decide +kernel
theorem dD_19 : decode prog_29_method_2_code 19 = .ok (.if_icmp .ge 17, 3) := by decide +kernel
theorem dD_22 : decode prog_29_method_2_code 22 = .ok (.aload_n 0, 1) := by decide +kernel
theorem dD_23 : decode prog_29_method_2_code 23 = .ok (.iload_n 3, 1) := by decide +kernel
theorem dD_24 : decode prog_29_method_2_code 24 = .ok (.iconst 1, 1) := by decide +kernel
theorem dD_25 : decode prog_29_method_2_code 25 = .ok (.iadd, 1) := by decide +kernel
theorem dD_26 : decode prog_29_method_2_code 26 = .ok (.baload, 1) := by decide +kernel
theorem dD_27 : decode prog_29_method_2_code 27 = .ok (.bipush 10, 2) := by decide +kernel
theorem dD_29 : decode prog_29_method_2_code 29 = .ok (.if_icmp .ne 7, 3) := by decide +kernel
theorem dD_32 : decode prog_29_method_2_code 32 = .ok (.iload_n 3, 1) := by decide +kernel
theorem dD_33 : decode prog_29_method_2_code 33 = .ok (.iconst 2, 1) := by decide +kernel
theorem dD_34 : decode prog_29_method_2_code 34 = .ok (.iadd, 1) := by decide +kernel
theorem dD_35 : decode prog_29_method_2_code 35 = .ok (.ireturn, 1) := by decide +kernel
theorem dD_36 : decode prog_29_method_2_code 36 = .ok (.iload_n 3, 1) := by decide +kernel
theorem dD_37 : decode prog_29_method_2_code 37 = .ok (.iconst 2, 1) := by decide +kernel
theorem dD_38 : decode prog_29_method_2_code 38 = .ok (.iadd, 1) := by decide +kernel
theorem dD_39 : decode prog_29_method_2_code 39 = .ok (.iload_n 2, 1) := by decide +kernel
theorem dD_40 : decode prog_29_method_2_code 40 = .ok (.if_icmp .ge 27, 3) := by decide +kernel
theorem dD_43 : decode prog_29_method_2_code 43 = .ok (.aload_n 0, 1) := by decide +kernel
theorem dD_44 : decode prog_29_method_2_code 44 = .ok (.iload_n 3, 1) := by decide +kernel
theorem dD_45 : decode prog_29_method_2_code 45 = .ok (.iconst 1, 1) := by decide +kernel
theorem dD_46 : decode prog_29_method_2_code 46 = .ok (.iadd, 1) := by decide +kernel
theorem dD_47 : decode prog_29_method_2_code 47 = .ok (.baload, 1) := by decide +kernel
theorem dD_48 : decode prog_29_method_2_code 48 = .ok (.bipush 13, 2) := by decide +kernel
theorem dD_50 : decode prog_29_method_2_code 50 = .ok (.if_icmp .ne 17, 3) := by decide +kernel
theorem dD_53 : decode prog_29_method_2_code 53 = .ok (.aload_n 0, 1) := by decide +kernel
theorem dD_54 : decode prog_29_method_2_code 54 = .ok (.iload_n 3, 1) := by decide +kernel
theorem dD_55 : decode prog_29_method_2_code 55 = .ok (.iconst 2, 1) := by decide +kernel
theorem dD_56 : decode prog_29_method_2_code 56 = .ok (.iadd, 1) := by decide +kernel
theorem dD_57 : decode prog_29_method_2_code 57 = .ok (.baload, 1) := by decide +kernel
theorem dD_58 : decode prog_29_method_2_code 58 = .ok (.bipush 10, 2) := by decide +kernel
theorem dD_60 : decode prog_29_method_2_code 60 = .ok (.if_icmp .ne 7, 3) := by decide +kernel
theorem dD_63 : decode prog_29_method_2_code 63 = .ok (.iload_n 3, 1) := by decide +kernel
theorem dD_64 : decode prog_29_method_2_code 64 = .ok (.iconst 3, 1) := by decide +kernel
theorem dD_65 : decode prog_29_method_2_code 65 = .ok (.iadd, 1) := by decide +kernel
theorem dD_66 : decode prog_29_method_2_code 66 = .ok (.ireturn, 1) := by decide +kernel
theorem dD_67 : decode prog_29_method_2_code 67 = .ok (.iinc 3 1, 3) := by decide +kernel
theorem dD_70 : decode prog_29_method_2_code 70 = .ok (.goto (-68), 3) := by decide +kernel
theorem dD_73 : decode prog_29_method_2_code 73 = .ok (.iconst (-1), 1) := by decide +kernel
theorem dD_74 : decode prog_29_method_2_code 74 = .ok (.ireturn, 1) := by decide +kernel
theorem pfD : plainFor (⟨"com/example/lease_lock_service/leaselockservice/http/RequestHead", "end", "([BII)I"⟩ : MethodName) = true := by decide +kernel
theorem efD (m : MethodId) (a : Addr) (q1 : Int32) (q2 : Int32) : entryFrame m #[(.ref a), (.int q1), (.int q2)] 4 = (mkF m 0 #[.val (.ref a), .val (.int q1), .val (.int q2), .unset] []) := by first | rfl | (simp [entryFrame, mkF, argsToLocals, Value.category, maxLocals]; done)
def QD (Z : State) (a : Addr) (q1 : Int32) (q2 : Int32) (F : Nat → Int32) (h0 : Heap) (n0 : Nat) (v : Option Value) (h : Heap) (L : List Loc) : Prop := (∃ r : Int32, v = some (.int r) ∧ ((r.toInt = -1 ∧ ∀ e, ¬ own_P (own_G F) q1.toInt q2.toInt e) ∨ (own_P (own_G F) q1.toInt q2.toInt r.toInt ∧ ∀ e, e < r.toInt → ¬ own_P (own_G F) q1.toInt q2.toInt e))) ∧ Fr n0 L ∧ h = h0
set_option maxRecDepth 65536 in
set_option maxHeartbeats 40000000 in
theorem rmD (l : Launch) (Z : State) (a0 : Array Value) (hw : ∀ d ∈ tables_1, d.before a0 Z = true) (ws : List Jvm.Cond) (a : Addr) (q1 : Int32) (q2 : Int32) (F : Nat → Int32) (h0 : Heap) (n0 : Nat) (Z0 : n0 ≤ h0.size) (A_a : own_AI Z h0 a .byte 8 F) (hp : 0 ≤ q1.toInt ∧ q1.toInt ≤ 8 ∧ 0 ≤ q2.toInt ∧ q2.toInt ≤ 8) :
    MetFree l (⟨"com/example/lease_lock_service/leaselockservice/http/RequestHead", "end", "([BII)I"⟩ : MethodName) (head1 (Jvm.Cond.code (⟨"com/example/lease_lock_service/leaselockservice/http/RequestHead", "end", "([BII)I"⟩ : MethodName) prog_29_method_2_code 4 (some Jvm.ClassFile.FieldType.int) :: ws) ({ frames := 0, cells := 0, slots := 0, locals := 0 } : Room)) (fun aa U => aa = #[(.ref a), (.int q1), (.int q2)] ∧ Z.Warmed39 U.vm ∧ U.heap = h0) (fun _ _ _ _ _ => True) (fun _ U o U' => ∃ v L, o = .returned v ∧ QD Z a q1 q2 F h0 n0 v U'.heap L ∧ FrameEnd U o U' L ({ frames := 0, cells := 0, slots := 0, locals := 0 } : Room).cells ({ frames := 0, cells := 0, slots := 0, locals := 0 } : Room).slots) := by
  refine own_met pfD ?_
  intro p e s m below meth c T0 hx hby hml hown hret hlk hnm hZ X0 e0
  have N0 := Fr.nil n0
  have r_q1 := rng32 q1
  have r_q2 := rng32 q2
  rw [efD]
  refine own_go (mkF m 1 #[.val (.ref a), .val (.int q1), .val (.int q2), .unset] [(.int q1)]) (fun t k => XS.iloadN X0.here hx rfl (hb hby dD_0) rfl k) ?_
  refine own_go (mkF m 2 #[.val (.ref a), .val (.int q1), .val (.int q2), .val (.int q1)] []) (fun t k => XS.istoreN X0.here hx rfl (hb hby dD_1) rfl (l' := #[.val (.ref a), .val (.int q1), .val (.int q2), .val (.int q1)]) rfl k) ?_
  have loop : ∀ (d : Nat) (i : Int32), i.toInt + d = 9 → q1.toInt ≤ i.toInt → own_I (own_G F) q1.toInt q2.toInt i.toInt → own_Ends p e below s ({ frames := 0, cells := 0, slots := 0, locals := 0 } : Room).cells ({ frames := 0, cells := 0, slots := 0, locals := 0 } : Room).slots (QD Z a q1 q2 F h0 n0) T0 (mkF m 2 #[.val (.ref a), .val (.int q1), .val (.int q2), .val (.int i)] []) := by
    intro d
    induction d with
    | zero =>
      intro i hd hq hI
      have ri := rng32 i
      refine own_go (mkF m 3 #[.val (.ref a), .val (.int q1), .val (.int q2), .val (.int i)] [(.int i)]) (fun t k => XS.iloadN X0.here hx rfl (hb hby dD_2) rfl k) ?_
      refine own_go (mkF m 4 #[.val (.ref a), .val (.int q1), .val (.int q2), .val (.int i)] [(.int q2), (.int i)]) (fun t k => XS.iloadN X0.here hx rfl (hb hby dD_3) rfl k) ?_
      have c4 : q2.toInt ≤ i.toInt := by omega
      refine own_go (mkF m 73 #[.val (.ref a), .val (.int q1), .val (.int q2), .val (.int i)] []) (fun t k => XS.icmpYes X0.here hx rfl (pc0 := 4) (pc' := 73) rfl (hb hby dD_4) rfl (own_icT (cd := .ge) c4) (by decide) (by decide) k) ?_
      refine own_go (mkF m 74 #[.val (.ref a), .val (.int q1), .val (.int q2), .val (.int i)] [(.int (-1 : Int32))]) (fun t k => XS.iconst X0.here hx rfl (hb hby dD_73) k) ?_
      refine own_retI X0 hx hlk hret (by simp) rfl (hb hby dD_74) (by decide) (by decide) ?_
      rw [e0]
      refine ⟨⟨_, rfl, ?_⟩, N0, rfl⟩
      left
      exact ⟨rfl, own_retm hI (by omega)⟩
    | succ d ih =>
      intro i hd hq hI
      have ri := rng32 i
      refine own_go (mkF m 3 #[.val (.ref a), .val (.int q1), .val (.int q2), .val (.int i)] [(.int i)]) (fun t k => XS.iloadN X0.here hx rfl (hb hby dD_2) rfl k) ?_
      refine own_go (mkF m 4 #[.val (.ref a), .val (.int q1), .val (.int q2), .val (.int i)] [(.int q2), (.int i)]) (fun t k => XS.iloadN X0.here hx rfl (hb hby dD_3) rfl k) ?_
      by_cases c4 : q2.toInt ≤ i.toInt
      · skip
        refine own_go (mkF m 73 #[.val (.ref a), .val (.int q1), .val (.int q2), .val (.int i)] []) (fun t k => XS.icmpYes X0.here hx rfl (pc0 := 4) (pc' := 73) rfl (hb hby dD_4) rfl (own_icT (cd := .ge) c4) (by decide) (by decide) k) ?_
        refine own_go (mkF m 74 #[.val (.ref a), .val (.int q1), .val (.int q2), .val (.int i)] [(.int (-1 : Int32))]) (fun t k => XS.iconst X0.here hx rfl (hb hby dD_73) k) ?_
        refine own_retI X0 hx hlk hret (by simp) rfl (hb hby dD_74) (by decide) (by decide) ?_
        rw [e0]
        refine ⟨⟨_, rfl, ?_⟩, N0, rfl⟩
        left
        exact ⟨rfl, own_retm hI (by omega)⟩
      · skip
        refine own_go (mkF m 7 #[.val (.ref a), .val (.int q1), .val (.int q2), .val (.int i)] []) (fun t k => XS.icmpNo X0.here hx rfl (hb hby dD_4) rfl (own_icF (cd := .ge) c4) k) ?_
        refine own_go (mkF m 8 #[.val (.ref a), .val (.int q1), .val (.int q2), .val (.int i)] [(.ref a)]) (fun t k => XS.aloadN X0.here hx rfl (hb hby dD_7) rfl rfl k) ?_
        refine own_go (mkF m 9 #[.val (.ref a), .val (.int q1), .val (.int q2), .val (.int i)] [(.int i), (.ref a)]) (fun t k => XS.iloadN X0.here hx rfl (hb hby dD_8) rfl k) ?_
        refine own_baload X0 hx hZ e0 A_a (j := i) (by omega) (by show (i.toInt : Int) < _; omega) (g := (mkF m 9 #[.val (.ref a), .val (.int q1), .val (.int q2), .val (.int i)] [(.int i), (.ref a)])) rfl rfl (hb hby dD_9) ?_
        generalize hv9 : F i.toInt.toNat = v9
        have r9 := rng32 v9
        show own_Ends p e below s ({ frames := 0, cells := 0, slots := 0, locals := 0 } : Room).cells ({ frames := 0, cells := 0, slots := 0, locals := 0 } : Room).slots (QD Z a q1 q2 F h0 n0) T0 (mkF m 10 #[.val (.ref a), .val (.int q1), .val (.int q2), .val (.int i)] [(.int v9)])
        have fg9 : own_G F i.toInt = v9.toInt := by unfold own_G; rw [← hv9]
        refine own_go (mkF m 12 #[.val (.ref a), .val (.int q1), .val (.int q2), .val (.int i)] [(.int (10 : Int32)), (.int v9)]) (fun t k => XS.bipush X0.here hx rfl (hb hby dD_10) k) ?_
        by_cases c12 : v9.toInt = 10
        · skip
          refine own_go (mkF m 15 #[.val (.ref a), .val (.int q1), .val (.int q2), .val (.int i)] []) (fun t k => XS.icmpNo X0.here hx rfl (hb hby dD_12) rfl (own_icF (cd := .ne) (fun q => q c12)) k) ?_
          refine own_go (mkF m 16 #[.val (.ref a), .val (.int q1), .val (.int q2), .val (.int i)] [(.int i)]) (fun t k => XS.iloadN X0.here hx rfl (hb hby dD_15) rfl k) ?_
          refine own_go (mkF m 17 #[.val (.ref a), .val (.int q1), .val (.int q2), .val (.int i)] [(.int (1 : Int32)), (.int i)]) (fun t k => XS.iconst X0.here hx rfl (hb hby dD_16) k) ?_
          refine own_go (mkF m 18 #[.val (.ref a), .val (.int q1), .val (.int q2), .val (.int i)] [(.int (i + (1 : Int32)))]) (fun t k => XS.iadd X0.here hx rfl (hb hby dD_17) rfl k) ?_
          generalize hv17 : (i + (1 : Int32)) = v17
          have f17 : (v17.toInt - (i.toInt + 1)) % 4294967296 = 0 := by rw [← hv17]; exact c_iadd i (1 : Int32)
          have r17 := rng32 v17
          refine own_go (mkF m 19 #[.val (.ref a), .val (.int q1), .val (.int q2), .val (.int i)] [(.int q2), (.int v17)]) (fun t k => XS.iloadN X0.here hx rfl (hb hby dD_18) rfl k) ?_
          by_cases c19 : q2.toInt ≤ v17.toInt
          · skip
            refine own_go (mkF m 36 #[.val (.ref a), .val (.int q1), .val (.int q2), .val (.int i)] []) (fun t k => XS.icmpYes X0.here hx rfl (pc0 := 19) (pc' := 36) rfl (hb hby dD_19) rfl (own_icT (cd := .ge) c19) (by decide) (by decide) k) ?_
            refine own_go (mkF m 37 #[.val (.ref a), .val (.int q1), .val (.int q2), .val (.int i)] [(.int i)]) (fun t k => XS.iloadN X0.here hx rfl (hb hby dD_36) rfl k) ?_
            refine own_go (mkF m 38 #[.val (.ref a), .val (.int q1), .val (.int q2), .val (.int i)] [(.int (2 : Int32)), (.int i)]) (fun t k => XS.iconst X0.here hx rfl (hb hby dD_37) k) ?_
            refine own_go (mkF m 39 #[.val (.ref a), .val (.int q1), .val (.int q2), .val (.int i)] [(.int (i + (2 : Int32)))]) (fun t k => XS.iadd X0.here hx rfl (hb hby dD_38) rfl k) ?_
            generalize hv38 : (i + (2 : Int32)) = v38
            have f38 : (v38.toInt - (i.toInt + 2)) % 4294967296 = 0 := by rw [← hv38]; exact c_iadd i (2 : Int32)
            have r38 := rng32 v38
            refine own_go (mkF m 40 #[.val (.ref a), .val (.int q1), .val (.int q2), .val (.int i)] [(.int q2), (.int v38)]) (fun t k => XS.iloadN X0.here hx rfl (hb hby dD_39) rfl k) ?_
            by_cases c40 : q2.toInt ≤ v38.toInt
            · skip
              refine own_go (mkF m 67 #[.val (.ref a), .val (.int q1), .val (.int q2), .val (.int i)] []) (fun t k => XS.icmpYes X0.here hx rfl (pc0 := 40) (pc' := 67) rfl (hb hby dD_40) rfl (own_icT (cd := .ge) c40) (by decide) (by decide) k) ?_
              refine own_go (mkF m 70 #[.val (.ref a), .val (.int q1), .val (.int q2), .val (.int (i + (1 : Int32)))] []) (fun t k => XS.iinc X0.here hx rfl (hb hby dD_67) rfl (l' := #[.val (.ref a), .val (.int q1), .val (.int q2), .val (.int (i + (1 : Int32)))]) rfl k) ?_
              generalize hv67 : (i + (1 : Int32)) = v67
              have f67 : (v67.toInt - (i.toInt + 1)) % 4294967296 = 0 := by rw [← hv67]; exact c_iadd i (1 : Int32)
              have r67 := rng32 v67
              refine own_go (mkF m 2 #[.val (.ref a), .val (.int q1), .val (.int q2), .val (.int v67)] []) (fun t k => XS.goto X0.here hx rfl (pc0 := 70) (pc' := 2) rfl (hb hby dD_70) (by decide) (by decide) k) ?_
              refine ih v67 (by omega) (by omega) ?_
              rw [show v67.toInt = i.toInt + 1 by omega]
              exact own_I_step hI (by omega)
            · skip
              refine own_go (mkF m 43 #[.val (.ref a), .val (.int q1), .val (.int q2), .val (.int i)] []) (fun t k => XS.icmpNo X0.here hx rfl (hb hby dD_40) rfl (own_icF (cd := .ge) c40) k) ?_
              refine own_go (mkF m 44 #[.val (.ref a), .val (.int q1), .val (.int q2), .val (.int i)] [(.ref a)]) (fun t k => XS.aloadN X0.here hx rfl (hb hby dD_43) rfl rfl k) ?_
              refine own_go (mkF m 45 #[.val (.ref a), .val (.int q1), .val (.int q2), .val (.int i)] [(.int i), (.ref a)]) (fun t k => XS.iloadN X0.here hx rfl (hb hby dD_44) rfl k) ?_
              refine own_go (mkF m 46 #[.val (.ref a), .val (.int q1), .val (.int q2), .val (.int i)] [(.int (1 : Int32)), (.int i), (.ref a)]) (fun t k => XS.iconst X0.here hx rfl (hb hby dD_45) k) ?_
              refine own_go (mkF m 47 #[.val (.ref a), .val (.int q1), .val (.int q2), .val (.int i)] [(.int (i + (1 : Int32))), (.ref a)]) (fun t k => XS.iadd X0.here hx rfl (hb hby dD_46) rfl k) ?_
              generalize hv46 : (i + (1 : Int32)) = v46
              have f46 : (v46.toInt - (i.toInt + 1)) % 4294967296 = 0 := by rw [← hv46]; exact c_iadd i (1 : Int32)
              have r46 := rng32 v46
              refine own_baload X0 hx hZ e0 A_a (j := v46) (by omega) (by show (v46.toInt : Int) < _; omega) (g := (mkF m 47 #[.val (.ref a), .val (.int q1), .val (.int q2), .val (.int i)] [(.int v46), (.ref a)])) rfl rfl (hb hby dD_47) ?_
              generalize hv47 : F v46.toInt.toNat = v47
              have r47 := rng32 v47
              show own_Ends p e below s ({ frames := 0, cells := 0, slots := 0, locals := 0 } : Room).cells ({ frames := 0, cells := 0, slots := 0, locals := 0 } : Room).slots (QD Z a q1 q2 F h0 n0) T0 (mkF m 48 #[.val (.ref a), .val (.int q1), .val (.int q2), .val (.int i)] [(.int v47)])
              have fg47 : own_G F (i.toInt + 1) = v47.toInt := by unfold own_G; rw [← hv47, show i.toInt + 1 = v46.toInt by omega]
              refine own_go (mkF m 50 #[.val (.ref a), .val (.int q1), .val (.int q2), .val (.int i)] [(.int (13 : Int32)), (.int v47)]) (fun t k => XS.bipush X0.here hx rfl (hb hby dD_48) k) ?_
              by_cases c50 : v47.toInt = 13
              · skip
                refine own_go (mkF m 53 #[.val (.ref a), .val (.int q1), .val (.int q2), .val (.int i)] []) (fun t k => XS.icmpNo X0.here hx rfl (hb hby dD_50) rfl (own_icF (cd := .ne) (fun q => q c50)) k) ?_
                refine own_go (mkF m 54 #[.val (.ref a), .val (.int q1), .val (.int q2), .val (.int i)] [(.ref a)]) (fun t k => XS.aloadN X0.here hx rfl (hb hby dD_53) rfl rfl k) ?_
                refine own_go (mkF m 55 #[.val (.ref a), .val (.int q1), .val (.int q2), .val (.int i)] [(.int i), (.ref a)]) (fun t k => XS.iloadN X0.here hx rfl (hb hby dD_54) rfl k) ?_
                refine own_go (mkF m 56 #[.val (.ref a), .val (.int q1), .val (.int q2), .val (.int i)] [(.int (2 : Int32)), (.int i), (.ref a)]) (fun t k => XS.iconst X0.here hx rfl (hb hby dD_55) k) ?_
                refine own_go (mkF m 57 #[.val (.ref a), .val (.int q1), .val (.int q2), .val (.int i)] [(.int (i + (2 : Int32))), (.ref a)]) (fun t k => XS.iadd X0.here hx rfl (hb hby dD_56) rfl k) ?_
                generalize hv56 : (i + (2 : Int32)) = v56
                have f56 : (v56.toInt - (i.toInt + 2)) % 4294967296 = 0 := by rw [← hv56]; exact c_iadd i (2 : Int32)
                have r56 := rng32 v56
                refine own_baload X0 hx hZ e0 A_a (j := v56) (by omega) (by show (v56.toInt : Int) < _; omega) (g := (mkF m 57 #[.val (.ref a), .val (.int q1), .val (.int q2), .val (.int i)] [(.int v56), (.ref a)])) rfl rfl (hb hby dD_57) ?_
                generalize hv57 : F v56.toInt.toNat = v57
                have r57 := rng32 v57
                show own_Ends p e below s ({ frames := 0, cells := 0, slots := 0, locals := 0 } : Room).cells ({ frames := 0, cells := 0, slots := 0, locals := 0 } : Room).slots (QD Z a q1 q2 F h0 n0) T0 (mkF m 58 #[.val (.ref a), .val (.int q1), .val (.int q2), .val (.int i)] [(.int v57)])
                have fg57 : own_G F (i.toInt + 2) = v57.toInt := by unfold own_G; rw [← hv57, show i.toInt + 2 = v56.toInt by omega]
                refine own_go (mkF m 60 #[.val (.ref a), .val (.int q1), .val (.int q2), .val (.int i)] [(.int (10 : Int32)), (.int v57)]) (fun t k => XS.bipush X0.here hx rfl (hb hby dD_58) k) ?_
                by_cases c60 : v57.toInt = 10
                · skip
                  refine own_go (mkF m 63 #[.val (.ref a), .val (.int q1), .val (.int q2), .val (.int i)] []) (fun t k => XS.icmpNo X0.here hx rfl (hb hby dD_60) rfl (own_icF (cd := .ne) (fun q => q c60)) k) ?_
                  refine own_go (mkF m 64 #[.val (.ref a), .val (.int q1), .val (.int q2), .val (.int i)] [(.int i)]) (fun t k => XS.iloadN X0.here hx rfl (hb hby dD_63) rfl k) ?_
                  refine own_go (mkF m 65 #[.val (.ref a), .val (.int q1), .val (.int q2), .val (.int i)] [(.int (3 : Int32)), (.int i)]) (fun t k => XS.iconst X0.here hx rfl (hb hby dD_64) k) ?_
                  refine own_go (mkF m 66 #[.val (.ref a), .val (.int q1), .val (.int q2), .val (.int i)] [(.int (i + (3 : Int32)))]) (fun t k => XS.iadd X0.here hx rfl (hb hby dD_65) rfl k) ?_
                  generalize hv65 : (i + (3 : Int32)) = v65
                  have f65 : (v65.toInt - (i.toInt + 3)) % 4294967296 = 0 := by rw [← hv65]; exact c_iadd i (3 : Int32)
                  have r65 := rng32 v65
                  refine own_retI X0 hx hlk hret (by simp) rfl (hb hby dD_66) (by decide) (by decide) ?_
                  rw [e0]
                  refine ⟨⟨_, rfl, ?_⟩, N0, rfl⟩
                  right
                  rw [show v65.toInt = i.toInt + 3 by omega]
                  exact own_ret3 hI (by omega) (by omega) (by omega) (by omega) (by omega)
                · skip
                  refine own_go (mkF m 67 #[.val (.ref a), .val (.int q1), .val (.int q2), .val (.int i)] []) (fun t k => XS.icmpYes X0.here hx rfl (pc0 := 60) (pc' := 67) rfl (hb hby dD_60) rfl (own_icT (cd := .ne) c60) (by decide) (by decide) k) ?_
                  refine own_go (mkF m 70 #[.val (.ref a), .val (.int q1), .val (.int q2), .val (.int (i + (1 : Int32)))] []) (fun t k => XS.iinc X0.here hx rfl (hb hby dD_67) rfl (l' := #[.val (.ref a), .val (.int q1), .val (.int q2), .val (.int (i + (1 : Int32)))]) rfl k) ?_
                  generalize hv67 : (i + (1 : Int32)) = v67
                  have f67 : (v67.toInt - (i.toInt + 1)) % 4294967296 = 0 := by rw [← hv67]; exact c_iadd i (1 : Int32)
                  have r67 := rng32 v67
                  refine own_go (mkF m 2 #[.val (.ref a), .val (.int q1), .val (.int q2), .val (.int v67)] []) (fun t k => XS.goto X0.here hx rfl (pc0 := 70) (pc' := 2) rfl (hb hby dD_70) (by decide) (by decide) k) ?_
                  refine ih v67 (by omega) (by omega) ?_
                  rw [show v67.toInt = i.toInt + 1 by omega]
                  exact own_I_step hI (by omega)
              · skip
                refine own_go (mkF m 67 #[.val (.ref a), .val (.int q1), .val (.int q2), .val (.int i)] []) (fun t k => XS.icmpYes X0.here hx rfl (pc0 := 50) (pc' := 67) rfl (hb hby dD_50) rfl (own_icT (cd := .ne) c50) (by decide) (by decide) k) ?_
                refine own_go (mkF m 70 #[.val (.ref a), .val (.int q1), .val (.int q2), .val (.int (i + (1 : Int32)))] []) (fun t k => XS.iinc X0.here hx rfl (hb hby dD_67) rfl (l' := #[.val (.ref a), .val (.int q1), .val (.int q2), .val (.int (i + (1 : Int32)))]) rfl k) ?_
                generalize hv67 : (i + (1 : Int32)) = v67
                have f67 : (v67.toInt - (i.toInt + 1)) % 4294967296 = 0 := by rw [← hv67]; exact c_iadd i (1 : Int32)
                have r67 := rng32 v67
                refine own_go (mkF m 2 #[.val (.ref a), .val (.int q1), .val (.int q2), .val (.int v67)] []) (fun t k => XS.goto X0.here hx rfl (pc0 := 70) (pc' := 2) rfl (hb hby dD_70) (by decide) (by decide) k) ?_
                refine ih v67 (by omega) (by omega) ?_
                rw [show v67.toInt = i.toInt + 1 by omega]
                exact own_I_step hI (by omega)
          · skip
            refine own_go (mkF m 22 #[.val (.ref a), .val (.int q1), .val (.int q2), .val (.int i)] []) (fun t k => XS.icmpNo X0.here hx rfl (hb hby dD_19) rfl (own_icF (cd := .ge) c19) k) ?_
            refine own_go (mkF m 23 #[.val (.ref a), .val (.int q1), .val (.int q2), .val (.int i)] [(.ref a)]) (fun t k => XS.aloadN X0.here hx rfl (hb hby dD_22) rfl rfl k) ?_
            refine own_go (mkF m 24 #[.val (.ref a), .val (.int q1), .val (.int q2), .val (.int i)] [(.int i), (.ref a)]) (fun t k => XS.iloadN X0.here hx rfl (hb hby dD_23) rfl k) ?_
            refine own_go (mkF m 25 #[.val (.ref a), .val (.int q1), .val (.int q2), .val (.int i)] [(.int (1 : Int32)), (.int i), (.ref a)]) (fun t k => XS.iconst X0.here hx rfl (hb hby dD_24) k) ?_
            refine own_go (mkF m 26 #[.val (.ref a), .val (.int q1), .val (.int q2), .val (.int i)] [(.int (i + (1 : Int32))), (.ref a)]) (fun t k => XS.iadd X0.here hx rfl (hb hby dD_25) rfl k) ?_
            generalize hv25 : (i + (1 : Int32)) = v25
            have f25 : (v25.toInt - (i.toInt + 1)) % 4294967296 = 0 := by rw [← hv25]; exact c_iadd i (1 : Int32)
            have r25 := rng32 v25
            refine own_baload X0 hx hZ e0 A_a (j := v25) (by omega) (by show (v25.toInt : Int) < _; omega) (g := (mkF m 26 #[.val (.ref a), .val (.int q1), .val (.int q2), .val (.int i)] [(.int v25), (.ref a)])) rfl rfl (hb hby dD_26) ?_
            generalize hv26 : F v25.toInt.toNat = v26
            have r26 := rng32 v26
            show own_Ends p e below s ({ frames := 0, cells := 0, slots := 0, locals := 0 } : Room).cells ({ frames := 0, cells := 0, slots := 0, locals := 0 } : Room).slots (QD Z a q1 q2 F h0 n0) T0 (mkF m 27 #[.val (.ref a), .val (.int q1), .val (.int q2), .val (.int i)] [(.int v26)])
            have fg26 : own_G F (i.toInt + 1) = v26.toInt := by unfold own_G; rw [← hv26, show i.toInt + 1 = v25.toInt by omega]
            refine own_go (mkF m 29 #[.val (.ref a), .val (.int q1), .val (.int q2), .val (.int i)] [(.int (10 : Int32)), (.int v26)]) (fun t k => XS.bipush X0.here hx rfl (hb hby dD_27) k) ?_
            by_cases c29 : v26.toInt = 10
            · skip
              refine own_go (mkF m 32 #[.val (.ref a), .val (.int q1), .val (.int q2), .val (.int i)] []) (fun t k => XS.icmpNo X0.here hx rfl (hb hby dD_29) rfl (own_icF (cd := .ne) (fun q => q c29)) k) ?_
              refine own_go (mkF m 33 #[.val (.ref a), .val (.int q1), .val (.int q2), .val (.int i)] [(.int i)]) (fun t k => XS.iloadN X0.here hx rfl (hb hby dD_32) rfl k) ?_
              refine own_go (mkF m 34 #[.val (.ref a), .val (.int q1), .val (.int q2), .val (.int i)] [(.int (2 : Int32)), (.int i)]) (fun t k => XS.iconst X0.here hx rfl (hb hby dD_33) k) ?_
              refine own_go (mkF m 35 #[.val (.ref a), .val (.int q1), .val (.int q2), .val (.int i)] [(.int (i + (2 : Int32)))]) (fun t k => XS.iadd X0.here hx rfl (hb hby dD_34) rfl k) ?_
              generalize hv34 : (i + (2 : Int32)) = v34
              have f34 : (v34.toInt - (i.toInt + 2)) % 4294967296 = 0 := by rw [← hv34]; exact c_iadd i (2 : Int32)
              have r34 := rng32 v34
              refine own_retI X0 hx hlk hret (by simp) rfl (hb hby dD_35) (by decide) (by decide) ?_
              rw [e0]
              refine ⟨⟨_, rfl, ?_⟩, N0, rfl⟩
              right
              rw [show v34.toInt = i.toInt + 2 by omega]
              exact own_ret2 hI (by omega) (by omega) (by omega) (by omega)
            · skip
              refine own_go (mkF m 36 #[.val (.ref a), .val (.int q1), .val (.int q2), .val (.int i)] []) (fun t k => XS.icmpYes X0.here hx rfl (pc0 := 29) (pc' := 36) rfl (hb hby dD_29) rfl (own_icT (cd := .ne) c29) (by decide) (by decide) k) ?_
              refine own_go (mkF m 37 #[.val (.ref a), .val (.int q1), .val (.int q2), .val (.int i)] [(.int i)]) (fun t k => XS.iloadN X0.here hx rfl (hb hby dD_36) rfl k) ?_
              refine own_go (mkF m 38 #[.val (.ref a), .val (.int q1), .val (.int q2), .val (.int i)] [(.int (2 : Int32)), (.int i)]) (fun t k => XS.iconst X0.here hx rfl (hb hby dD_37) k) ?_
              refine own_go (mkF m 39 #[.val (.ref a), .val (.int q1), .val (.int q2), .val (.int i)] [(.int (i + (2 : Int32)))]) (fun t k => XS.iadd X0.here hx rfl (hb hby dD_38) rfl k) ?_
              generalize hv38 : (i + (2 : Int32)) = v38
              have f38 : (v38.toInt - (i.toInt + 2)) % 4294967296 = 0 := by rw [← hv38]; exact c_iadd i (2 : Int32)
              have r38 := rng32 v38
              refine own_go (mkF m 40 #[.val (.ref a), .val (.int q1), .val (.int q2), .val (.int i)] [(.int q2), (.int v38)]) (fun t k => XS.iloadN X0.here hx rfl (hb hby dD_39) rfl k) ?_
              by_cases c40 : q2.toInt ≤ v38.toInt
              · skip
                refine own_go (mkF m 67 #[.val (.ref a), .val (.int q1), .val (.int q2), .val (.int i)] []) (fun t k => XS.icmpYes X0.here hx rfl (pc0 := 40) (pc' := 67) rfl (hb hby dD_40) rfl (own_icT (cd := .ge) c40) (by decide) (by decide) k) ?_
                refine own_go (mkF m 70 #[.val (.ref a), .val (.int q1), .val (.int q2), .val (.int (i + (1 : Int32)))] []) (fun t k => XS.iinc X0.here hx rfl (hb hby dD_67) rfl (l' := #[.val (.ref a), .val (.int q1), .val (.int q2), .val (.int (i + (1 : Int32)))]) rfl k) ?_
                generalize hv67 : (i + (1 : Int32)) = v67
                have f67 : (v67.toInt - (i.toInt + 1)) % 4294967296 = 0 := by rw [← hv67]; exact c_iadd i (1 : Int32)
                have r67 := rng32 v67
                refine own_go (mkF m 2 #[.val (.ref a), .val (.int q1), .val (.int q2), .val (.int v67)] []) (fun t k => XS.goto X0.here hx rfl (pc0 := 70) (pc' := 2) rfl (hb hby dD_70) (by decide) (by decide) k) ?_
                refine ih v67 (by omega) (by omega) ?_
                rw [show v67.toInt = i.toInt + 1 by omega]
                exact own_I_step hI (by omega)
              · skip
                refine own_go (mkF m 43 #[.val (.ref a), .val (.int q1), .val (.int q2), .val (.int i)] []) (fun t k => XS.icmpNo X0.here hx rfl (hb hby dD_40) rfl (own_icF (cd := .ge) c40) k) ?_
                refine own_go (mkF m 44 #[.val (.ref a), .val (.int q1), .val (.int q2), .val (.int i)] [(.ref a)]) (fun t k => XS.aloadN X0.here hx rfl (hb hby dD_43) rfl rfl k) ?_
                refine own_go (mkF m 45 #[.val (.ref a), .val (.int q1), .val (.int q2), .val (.int i)] [(.int i), (.ref a)]) (fun t k => XS.iloadN X0.here hx rfl (hb hby dD_44) rfl k) ?_
                refine own_go (mkF m 46 #[.val (.ref a), .val (.int q1), .val (.int q2), .val (.int i)] [(.int (1 : Int32)), (.int i), (.ref a)]) (fun t k => XS.iconst X0.here hx rfl (hb hby dD_45) k) ?_
                refine own_go (mkF m 47 #[.val (.ref a), .val (.int q1), .val (.int q2), .val (.int i)] [(.int (i + (1 : Int32))), (.ref a)]) (fun t k => XS.iadd X0.here hx rfl (hb hby dD_46) rfl k) ?_
                generalize hv46 : (i + (1 : Int32)) = v46
                have f46 : (v46.toInt - (i.toInt + 1)) % 4294967296 = 0 := by rw [← hv46]; exact c_iadd i (1 : Int32)
                have r46 := rng32 v46
                refine own_baload X0 hx hZ e0 A_a (j := v46) (by omega) (by show (v46.toInt : Int) < _; omega) (g := (mkF m 47 #[.val (.ref a), .val (.int q1), .val (.int q2), .val (.int i)] [(.int v46), (.ref a)])) rfl rfl (hb hby dD_47) ?_
                generalize hv47 : F v46.toInt.toNat = v47
                have r47 := rng32 v47
                show own_Ends p e below s ({ frames := 0, cells := 0, slots := 0, locals := 0 } : Room).cells ({ frames := 0, cells := 0, slots := 0, locals := 0 } : Room).slots (QD Z a q1 q2 F h0 n0) T0 (mkF m 48 #[.val (.ref a), .val (.int q1), .val (.int q2), .val (.int i)] [(.int v47)])
                have fg47 : own_G F (i.toInt + 1) = v47.toInt := by unfold own_G; rw [← hv47, show i.toInt + 1 = v46.toInt by omega]
                refine own_go (mkF m 50 #[.val (.ref a), .val (.int q1), .val (.int q2), .val (.int i)] [(.int (13 : Int32)), (.int v47)]) (fun t k => XS.bipush X0.here hx rfl (hb hby dD_48) k) ?_
                by_cases c50 : v47.toInt = 13
                · skip
                  refine own_go (mkF m 53 #[.val (.ref a), .val (.int q1), .val (.int q2), .val (.int i)] []) (fun t k => XS.icmpNo X0.here hx rfl (hb hby dD_50) rfl (own_icF (cd := .ne) (fun q => q c50)) k) ?_
                  refine own_go (mkF m 54 #[.val (.ref a), .val (.int q1), .val (.int q2), .val (.int i)] [(.ref a)]) (fun t k => XS.aloadN X0.here hx rfl (hb hby dD_53) rfl rfl k) ?_
                  refine own_go (mkF m 55 #[.val (.ref a), .val (.int q1), .val (.int q2), .val (.int i)] [(.int i), (.ref a)]) (fun t k => XS.iloadN X0.here hx rfl (hb hby dD_54) rfl k) ?_
                  refine own_go (mkF m 56 #[.val (.ref a), .val (.int q1), .val (.int q2), .val (.int i)] [(.int (2 : Int32)), (.int i), (.ref a)]) (fun t k => XS.iconst X0.here hx rfl (hb hby dD_55) k) ?_
                  refine own_go (mkF m 57 #[.val (.ref a), .val (.int q1), .val (.int q2), .val (.int i)] [(.int (i + (2 : Int32))), (.ref a)]) (fun t k => XS.iadd X0.here hx rfl (hb hby dD_56) rfl k) ?_
                  generalize hv56 : (i + (2 : Int32)) = v56
                  have f56 : (v56.toInt - (i.toInt + 2)) % 4294967296 = 0 := by rw [← hv56]; exact c_iadd i (2 : Int32)
                  have r56 := rng32 v56
                  refine own_baload X0 hx hZ e0 A_a (j := v56) (by omega) (by show (v56.toInt : Int) < _; omega) (g := (mkF m 57 #[.val (.ref a), .val (.int q1), .val (.int q2), .val (.int i)] [(.int v56), (.ref a)])) rfl rfl (hb hby dD_57) ?_
                  generalize hv57 : F v56.toInt.toNat = v57
                  have r57 := rng32 v57
                  show own_Ends p e below s ({ frames := 0, cells := 0, slots := 0, locals := 0 } : Room).cells ({ frames := 0, cells := 0, slots := 0, locals := 0 } : Room).slots (QD Z a q1 q2 F h0 n0) T0 (mkF m 58 #[.val (.ref a), .val (.int q1), .val (.int q2), .val (.int i)] [(.int v57)])
                  have fg57 : own_G F (i.toInt + 2) = v57.toInt := by unfold own_G; rw [← hv57, show i.toInt + 2 = v56.toInt by omega]
                  refine own_go (mkF m 60 #[.val (.ref a), .val (.int q1), .val (.int q2), .val (.int i)] [(.int (10 : Int32)), (.int v57)]) (fun t k => XS.bipush X0.here hx rfl (hb hby dD_58) k) ?_
                  by_cases c60 : v57.toInt = 10
                  · skip
                    refine own_go (mkF m 63 #[.val (.ref a), .val (.int q1), .val (.int q2), .val (.int i)] []) (fun t k => XS.icmpNo X0.here hx rfl (hb hby dD_60) rfl (own_icF (cd := .ne) (fun q => q c60)) k) ?_
                    refine own_go (mkF m 64 #[.val (.ref a), .val (.int q1), .val (.int q2), .val (.int i)] [(.int i)]) (fun t k => XS.iloadN X0.here hx rfl (hb hby dD_63) rfl k) ?_
                    refine own_go (mkF m 65 #[.val (.ref a), .val (.int q1), .val (.int q2), .val (.int i)] [(.int (3 : Int32)), (.int i)]) (fun t k => XS.iconst X0.here hx rfl (hb hby dD_64) k) ?_
                    refine own_go (mkF m 66 #[.val (.ref a), .val (.int q1), .val (.int q2), .val (.int i)] [(.int (i + (3 : Int32)))]) (fun t k => XS.iadd X0.here hx rfl (hb hby dD_65) rfl k) ?_
                    generalize hv65 : (i + (3 : Int32)) = v65
                    have f65 : (v65.toInt - (i.toInt + 3)) % 4294967296 = 0 := by rw [← hv65]; exact c_iadd i (3 : Int32)
                    have r65 := rng32 v65
                    refine own_retI X0 hx hlk hret (by simp) rfl (hb hby dD_66) (by decide) (by decide) ?_
                    rw [e0]
                    refine ⟨⟨_, rfl, ?_⟩, N0, rfl⟩
                    right
                    rw [show v65.toInt = i.toInt + 3 by omega]
                    exact own_ret3 hI (by omega) (by omega) (by omega) (by omega) (by omega)
                  · skip
                    refine own_go (mkF m 67 #[.val (.ref a), .val (.int q1), .val (.int q2), .val (.int i)] []) (fun t k => XS.icmpYes X0.here hx rfl (pc0 := 60) (pc' := 67) rfl (hb hby dD_60) rfl (own_icT (cd := .ne) c60) (by decide) (by decide) k) ?_
                    refine own_go (mkF m 70 #[.val (.ref a), .val (.int q1), .val (.int q2), .val (.int (i + (1 : Int32)))] []) (fun t k => XS.iinc X0.here hx rfl (hb hby dD_67) rfl (l' := #[.val (.ref a), .val (.int q1), .val (.int q2), .val (.int (i + (1 : Int32)))]) rfl k) ?_
                    generalize hv67 : (i + (1 : Int32)) = v67
                    have f67 : (v67.toInt - (i.toInt + 1)) % 4294967296 = 0 := by rw [← hv67]; exact c_iadd i (1 : Int32)
                    have r67 := rng32 v67
                    refine own_go (mkF m 2 #[.val (.ref a), .val (.int q1), .val (.int q2), .val (.int v67)] []) (fun t k => XS.goto X0.here hx rfl (pc0 := 70) (pc' := 2) rfl (hb hby dD_70) (by decide) (by decide) k) ?_
                    refine ih v67 (by omega) (by omega) ?_
                    rw [show v67.toInt = i.toInt + 1 by omega]
                    exact own_I_step hI (by omega)
                · skip
                  refine own_go (mkF m 67 #[.val (.ref a), .val (.int q1), .val (.int q2), .val (.int i)] []) (fun t k => XS.icmpYes X0.here hx rfl (pc0 := 50) (pc' := 67) rfl (hb hby dD_50) rfl (own_icT (cd := .ne) c50) (by decide) (by decide) k) ?_
                  refine own_go (mkF m 70 #[.val (.ref a), .val (.int q1), .val (.int q2), .val (.int (i + (1 : Int32)))] []) (fun t k => XS.iinc X0.here hx rfl (hb hby dD_67) rfl (l' := #[.val (.ref a), .val (.int q1), .val (.int q2), .val (.int (i + (1 : Int32)))]) rfl k) ?_
                  generalize hv67 : (i + (1 : Int32)) = v67
                  have f67 : (v67.toInt - (i.toInt + 1)) % 4294967296 = 0 := by rw [← hv67]; exact c_iadd i (1 : Int32)
                  have r67 := rng32 v67
                  refine own_go (mkF m 2 #[.val (.ref a), .val (.int q1), .val (.int q2), .val (.int v67)] []) (fun t k => XS.goto X0.here hx rfl (pc0 := 70) (pc' := 2) rfl (hb hby dD_70) (by decide) (by decide) k) ?_
                  refine ih v67 (by omega) (by omega) ?_
                  rw [show v67.toInt = i.toInt + 1 by omega]
                  exact own_I_step hI (by omega)
        · skip
          refine own_go (mkF m 67 #[.val (.ref a), .val (.int q1), .val (.int q2), .val (.int i)] []) (fun t k => XS.icmpYes X0.here hx rfl (pc0 := 12) (pc' := 67) rfl (hb hby dD_12) rfl (own_icT (cd := .ne) c12) (by decide) (by decide) k) ?_
          refine own_go (mkF m 70 #[.val (.ref a), .val (.int q1), .val (.int q2), .val (.int (i + (1 : Int32)))] []) (fun t k => XS.iinc X0.here hx rfl (hb hby dD_67) rfl (l' := #[.val (.ref a), .val (.int q1), .val (.int q2), .val (.int (i + (1 : Int32)))]) rfl k) ?_
          generalize hv67 : (i + (1 : Int32)) = v67
          have f67 : (v67.toInt - (i.toInt + 1)) % 4294967296 = 0 := by rw [← hv67]; exact c_iadd i (1 : Int32)
          have r67 := rng32 v67
          refine own_go (mkF m 2 #[.val (.ref a), .val (.int q1), .val (.int q2), .val (.int v67)] []) (fun t k => XS.goto X0.here hx rfl (pc0 := 70) (pc' := 2) rfl (hb hby dD_70) (by decide) (by decide) k) ?_
          refine ih v67 (by omega) (by omega) ?_
          rw [show v67.toInt = i.toInt + 1 by omega]
          exact own_I_step hI (by omega)
  exact loop (9 - q1.toInt).toNat q1 (by omega) (by omega) own_I_start
theorem pd0_0 : parseMethodDescriptor "(IJI)B" = some ⟨[.int, .long, .int], some .byte⟩ := by decide +kernel
theorem pd0_1 : parseMethodDescriptor "([BIII)Z" = some ⟨[(.array .byte), .int, .int, .int], some .boolean⟩ := by decide +kernel
theorem pd0_2 : parseMethodDescriptor "([BII)I" = some ⟨[(.array .byte), .int, .int], some .int⟩ := by decide +kernel
theorem pf0 : plainFor (⟨"com/example/lease_lock_service/leaselockservice/http/RequestHeadEndPinLaw", "law", "(IJII)Z"⟩ : MethodName) = true := by decide +kernel
theorem ef0 (m : MethodId) (q1 : Int32) (q2 : Int64) (q3 : Int32) (q4 : Int32) : entryFrame m #[(.int q1), (.long q2), (.int q3), (.int q4)] maxLocals = (mkF m 0 #[.val (.int q1), .val (.long q2), .second, .val (.int q3), .val (.int q4), .unset, .unset, .unset, .unset] []) := by first | rfl | (simp [entryFrame, mkF, argsToLocals, Value.category, maxLocals]; done)
def Q0 (Z : State) (q1 : Int32) (q2 : Int64) (q3 : Int32) (q4 : Int32) (h0 : Heap) (n0 : Nat) (v : Option Value) (h : Heap) (L : List Loc) : Prop := v = some (.int 1) ∧ Fr n0 L
set_option maxRecDepth 65536 in
set_option maxHeartbeats 40000000 in
theorem rm0 (l : Launch) (Z : State) (a0 : Array Value) (hw : ∀ d ∈ tables_1, d.before a0 Z = true) (ws : List Jvm.Cond) (q1 : Int32) (q2 : Int64) (q3 : Int32) (q4 : Int32) (h0 : Heap) (n0 : Nat) (Z0 : n0 ≤ h0.size) :
    MetFree l x (head1 (Jvm.Cond.code x code maxLocals ret :: ws) room_1) (fun aa U => aa = #[(.int q1), (.long q2), (.int q3), (.int q4)] ∧ Z.Warmed39 U.vm ∧ U.heap = h0) (fun _ _ _ _ _ => True) (fun _ U o U' => ∃ v L, o = .returned v ∧ Q0 Z q1 q2 q3 q4 h0 n0 v U'.heap L ∧ FrameEnd U o U' L room_1.cells room_1.slots) := by
  refine own_met pf0 ?_
  intro p e s m below meth c T0 hx hby hml hown hret hlk hnm hZ X0 e0
  have N0 := Fr.nil n0
  have r_q1 := rng32 q1
  have r_q2 := rng64 q2
  have r_q3 := rng32 q3
  have r_q4 := rng32 q4
  rw [ef0]
  refine own_go (mkF m 2 #[.val (.int q1), .val (.long q2), .second, .val (.int q3), .val (.int q4), .unset, .unset, .unset, .unset] [(.int (8 : Int32))]) (fun t k => XS.bipush X0.here hx rfl (hb hby at_0) k) ?_
  refine own_newarr X0 hx hZ (hw _ (List.mem_of_getElem? (i := 0) rfl)) e0 (g := (mkF m 2 #[.val (.int q1), .val (.long q2), .second, .val (.int q3), .val (.int q4), .unset, .unset, .unset, .unset] [(.int (8 : Int32))])) rfl (hb hby at_2) rfl (by decide) 8 (by decide) (by decide) (by decide) (by decide) ?_
  intro T2 h2 b2 X2 e2 E2 g2 A2
  have A2 : own_AI Z h2 b2 .byte 8 (fun _ => 0) := A2
  have gb2 : n0 ≤ b2 := Nat.le_trans Z0 (Nat.le_of_eq g2.symm)
  have Z0_2 : n0 ≤ h2.size := Nat.le_trans Z0 E2.1
  show own_Ends p e below s room_1.cells room_1.slots (Q0 Z q1 q2 q3 q4 h0 n0) T2 (mkF m 4 #[.val (.int q1), .val (.long q2), .second, .val (.int q3), .val (.int q4), .unset, .unset, .unset, .unset] [(.ref b2)])
  refine own_go (mkF m 6 #[.val (.int q1), .val (.long q2), .second, .val (.int q3), .val (.int q4), .val (.ref b2), .unset, .unset, .unset] []) (fun t k => XS.astore X2.here hx rfl (hb hby at_4) rfl rfl (l' := #[.val (.int q1), .val (.long q2), .second, .val (.int q3), .val (.int q4), .val (.ref b2), .unset, .unset, .unset]) rfl k) ?_
  refine own_go (mkF m 8 #[.val (.int q1), .val (.long q2), .second, .val (.int q3), .val (.int q4), .val (.ref b2), .unset, .unset, .unset] [(.ref b2)]) (fun t k => XS.aload X2.here hx rfl (hb hby at_6) rfl rfl k) ?_
  refine own_go (mkF m 9 #[.val (.int q1), .val (.long q2), .second, .val (.int q3), .val (.int q4), .val (.ref b2), .unset, .unset, .unset] [(.int (0 : Int32)), (.ref b2)]) (fun t k => XS.iconst X2.here hx rfl (hb hby at_8) k) ?_
  refine own_go (mkF m 10 #[.val (.int q1), .val (.long q2), .second, .val (.int q3), .val (.int q4), .val (.ref b2), .unset, .unset, .unset] [(.int q1), (.int (0 : Int32)), (.ref b2)]) (fun t k => XS.iloadN X2.here hx rfl (hb hby at_9) rfl k) ?_
  refine own_go (mkF m 11 #[.val (.int q1), .val (.long q2), .second, .val (.int q3), .val (.int q4), .val (.ref b2), .unset, .unset, .unset] [(.long q2), (.int q1), (.int (0 : Int32)), (.ref b2)]) (fun t k => XS.lloadN X2.here hx rfl (hb hby at_10) rfl k) ?_
  refine own_go (mkF m 12 #[.val (.int q1), .val (.long q2), .second, .val (.int q3), .val (.int q4), .val (.ref b2), .unset, .unset, .unset] [(.int (0 : Int32)), (.long q2), (.int q1), (.int (0 : Int32)), (.ref b2)]) (fun t k => XS.iconst X2.here hx rfl (hb hby at_11) k) ?_
  have lt12_2 : (0 : Int32).toInt = 0 := rfl
  refine own_callS X2 hx hZ (y := (⟨"com/example/lease_lock_service/leaselockservice/http/RequestHeadEndPinLaw", "pick", "(IJI)B"⟩ : MethodName)) hown (hw _ (List.mem_of_getElem? (i := 1) rfl)) (hw _ (List.mem_of_getElem? (i := 2) rfl)) (hw _ (List.mem_of_getElem? (i := 3) rfl)) (hw _ (List.mem_of_getElem? (i := 4) rfl)) (by decide) e2 (rmP l Z a0 hw [] q1 q2 (0 : Int32) h2 n0 Z0_2) 2 (by decide) (by decide) (by decide) (by decide) (g := (mkF m 12 #[.val (.int q1), .val (.long q2), .second, .val (.int q3), .val (.int q4), .val (.ref b2), .unset, .unset, .unset] [(.int (0 : Int32)), (.long q2), (.int q1), (.int (0 : Int32)), (.ref b2)])) rfl (by rw [hml]; rfl) [(.int q1), (.long q2), (.int (0 : Int32))] [(.int (0 : Int32)), (.ref b2)] (lenOf pd0_0 rfl) rfl rfl (by show 2 * 0 + _ ≤ _; exact Nat.le_of_eq rfl) (hb hby at_12) ?_
  intro rv12 T12 h12 L12 X12 e12 hQ12
  obtain ⟨⟨r12, rfl, hr12⟩, NQ12, eq12⟩ := hQ12
  rw [eq12] at e12
  have rr12 := rng32 r12
  have N12 := Fr.app N0 NQ12
  show own_Ends p e below s room_1.cells room_1.slots (Q0 Z q1 q2 q3 q4 h0 n0) T12 (mkF m 15 #[.val (.int q1), .val (.long q2), .second, .val (.int q3), .val (.int q4), .val (.ref b2), .unset, .unset, .unset] [(.int r12), (.int (0 : Int32)), (.ref b2)])
  refine own_bastore X12 hx hZ e12 A2 (j := (0 : Int32)) (x := (nar .byte r12)) (by decide) (by decide) rfl (g := (mkF m 15 #[.val (.int q1), .val (.long q2), .second, .val (.int q3), .val (.int q4), .val (.ref b2), .unset, .unset, .unset] [(.int r12), (.int (0 : Int32)), (.ref b2)])) rfl rfl (hb hby at_15) ?_
  intro T15 h15 F15 X15 e15 W15 hF15 A15
  have N15 := Fr.snoc X15 N12 gb2
  have Z0_15 : n0 ≤ h15.size := by rw [W15.size]; exact Z0_2
  show own_Ends p e below s room_1.cells room_1.slots (Q0 Z q1 q2 q3 q4 h0 n0) T15 (mkF m 16 #[.val (.int q1), .val (.long q2), .second, .val (.int q3), .val (.int q4), .val (.ref b2), .unset, .unset, .unset] [])
  refine own_go (mkF m 18 #[.val (.int q1), .val (.long q2), .second, .val (.int q3), .val (.int q4), .val (.ref b2), .unset, .unset, .unset] [(.ref b2)]) (fun t k => XS.aload X15.here hx rfl (hb hby at_16) rfl rfl k) ?_
  refine own_go (mkF m 19 #[.val (.int q1), .val (.long q2), .second, .val (.int q3), .val (.int q4), .val (.ref b2), .unset, .unset, .unset] [(.int (1 : Int32)), (.ref b2)]) (fun t k => XS.iconst X15.here hx rfl (hb hby at_18) k) ?_
  refine own_go (mkF m 20 #[.val (.int q1), .val (.long q2), .second, .val (.int q3), .val (.int q4), .val (.ref b2), .unset, .unset, .unset] [(.int q1), (.int (1 : Int32)), (.ref b2)]) (fun t k => XS.iloadN X15.here hx rfl (hb hby at_19) rfl k) ?_
  refine own_go (mkF m 21 #[.val (.int q1), .val (.long q2), .second, .val (.int q3), .val (.int q4), .val (.ref b2), .unset, .unset, .unset] [(.long q2), (.int q1), (.int (1 : Int32)), (.ref b2)]) (fun t k => XS.lloadN X15.here hx rfl (hb hby at_20) rfl k) ?_
  refine own_go (mkF m 22 #[.val (.int q1), .val (.long q2), .second, .val (.int q3), .val (.int q4), .val (.ref b2), .unset, .unset, .unset] [(.int (1 : Int32)), (.long q2), (.int q1), (.int (1 : Int32)), (.ref b2)]) (fun t k => XS.iconst X15.here hx rfl (hb hby at_21) k) ?_
  have lt22_2 : (1 : Int32).toInt = 1 := rfl
  refine own_callS X15 hx hZ (y := (⟨"com/example/lease_lock_service/leaselockservice/http/RequestHeadEndPinLaw", "pick", "(IJI)B"⟩ : MethodName)) hown (hw _ (List.mem_of_getElem? (i := 1) rfl)) (hw _ (List.mem_of_getElem? (i := 2) rfl)) (hw _ (List.mem_of_getElem? (i := 3) rfl)) (hw _ (List.mem_of_getElem? (i := 4) rfl)) (by decide) e15 (rmP l Z a0 hw [] q1 q2 (1 : Int32) h15 n0 Z0_15) 2 (by decide) (by decide) (by decide) (by decide) (g := (mkF m 22 #[.val (.int q1), .val (.long q2), .second, .val (.int q3), .val (.int q4), .val (.ref b2), .unset, .unset, .unset] [(.int (1 : Int32)), (.long q2), (.int q1), (.int (1 : Int32)), (.ref b2)])) rfl (by rw [hml]; rfl) [(.int q1), (.long q2), (.int (1 : Int32))] [(.int (1 : Int32)), (.ref b2)] (lenOf pd0_0 rfl) rfl rfl (by show 2 * 0 + _ ≤ _; exact Nat.le_of_eq rfl) (hb hby at_22) ?_
  intro rv22 T22 h22 L22 X22 e22 hQ22
  obtain ⟨⟨r22, rfl, hr22⟩, NQ22, eq22⟩ := hQ22
  rw [eq22] at e22
  have rr22 := rng32 r22
  have N22 := Fr.app N15 NQ22
  show own_Ends p e below s room_1.cells room_1.slots (Q0 Z q1 q2 q3 q4 h0 n0) T22 (mkF m 25 #[.val (.int q1), .val (.long q2), .second, .val (.int q3), .val (.int q4), .val (.ref b2), .unset, .unset, .unset] [(.int r22), (.int (1 : Int32)), (.ref b2)])
  refine own_bastore X22 hx hZ e22 A15 (j := (1 : Int32)) (x := (nar .byte r22)) (by decide) (by decide) rfl (g := (mkF m 25 #[.val (.int q1), .val (.long q2), .second, .val (.int q3), .val (.int q4), .val (.ref b2), .unset, .unset, .unset] [(.int r22), (.int (1 : Int32)), (.ref b2)])) rfl rfl (hb hby at_25) ?_
  intro T25 h25 F25 X25 e25 W25 hF25 A25
  have N25 := Fr.snoc X25 N22 gb2
  have Z0_25 : n0 ≤ h25.size := by rw [W25.size]; exact Z0_15
  show own_Ends p e below s room_1.cells room_1.slots (Q0 Z q1 q2 q3 q4 h0 n0) T25 (mkF m 26 #[.val (.int q1), .val (.long q2), .second, .val (.int q3), .val (.int q4), .val (.ref b2), .unset, .unset, .unset] [])
  refine own_go (mkF m 28 #[.val (.int q1), .val (.long q2), .second, .val (.int q3), .val (.int q4), .val (.ref b2), .unset, .unset, .unset] [(.ref b2)]) (fun t k => XS.aload X25.here hx rfl (hb hby at_26) rfl rfl k) ?_
  refine own_go (mkF m 29 #[.val (.int q1), .val (.long q2), .second, .val (.int q3), .val (.int q4), .val (.ref b2), .unset, .unset, .unset] [(.int (2 : Int32)), (.ref b2)]) (fun t k => XS.iconst X25.here hx rfl (hb hby at_28) k) ?_
  refine own_go (mkF m 30 #[.val (.int q1), .val (.long q2), .second, .val (.int q3), .val (.int q4), .val (.ref b2), .unset, .unset, .unset] [(.int q1), (.int (2 : Int32)), (.ref b2)]) (fun t k => XS.iloadN X25.here hx rfl (hb hby at_29) rfl k) ?_
  refine own_go (mkF m 31 #[.val (.int q1), .val (.long q2), .second, .val (.int q3), .val (.int q4), .val (.ref b2), .unset, .unset, .unset] [(.long q2), (.int q1), (.int (2 : Int32)), (.ref b2)]) (fun t k => XS.lloadN X25.here hx rfl (hb hby at_30) rfl k) ?_
  refine own_go (mkF m 32 #[.val (.int q1), .val (.long q2), .second, .val (.int q3), .val (.int q4), .val (.ref b2), .unset, .unset, .unset] [(.int (2 : Int32)), (.long q2), (.int q1), (.int (2 : Int32)), (.ref b2)]) (fun t k => XS.iconst X25.here hx rfl (hb hby at_31) k) ?_
  have lt32_2 : (2 : Int32).toInt = 2 := rfl
  refine own_callS X25 hx hZ (y := (⟨"com/example/lease_lock_service/leaselockservice/http/RequestHeadEndPinLaw", "pick", "(IJI)B"⟩ : MethodName)) hown (hw _ (List.mem_of_getElem? (i := 1) rfl)) (hw _ (List.mem_of_getElem? (i := 2) rfl)) (hw _ (List.mem_of_getElem? (i := 3) rfl)) (hw _ (List.mem_of_getElem? (i := 4) rfl)) (by decide) e25 (rmP l Z a0 hw [] q1 q2 (2 : Int32) h25 n0 Z0_25) 2 (by decide) (by decide) (by decide) (by decide) (g := (mkF m 32 #[.val (.int q1), .val (.long q2), .second, .val (.int q3), .val (.int q4), .val (.ref b2), .unset, .unset, .unset] [(.int (2 : Int32)), (.long q2), (.int q1), (.int (2 : Int32)), (.ref b2)])) rfl (by rw [hml]; rfl) [(.int q1), (.long q2), (.int (2 : Int32))] [(.int (2 : Int32)), (.ref b2)] (lenOf pd0_0 rfl) rfl rfl (by show 2 * 0 + _ ≤ _; exact Nat.le_of_eq rfl) (hb hby at_32) ?_
  intro rv32 T32 h32 L32 X32 e32 hQ32
  obtain ⟨⟨r32, rfl, hr32⟩, NQ32, eq32⟩ := hQ32
  rw [eq32] at e32
  have rr32 := rng32 r32
  have N32 := Fr.app N25 NQ32
  show own_Ends p e below s room_1.cells room_1.slots (Q0 Z q1 q2 q3 q4 h0 n0) T32 (mkF m 35 #[.val (.int q1), .val (.long q2), .second, .val (.int q3), .val (.int q4), .val (.ref b2), .unset, .unset, .unset] [(.int r32), (.int (2 : Int32)), (.ref b2)])
  refine own_bastore X32 hx hZ e32 A25 (j := (2 : Int32)) (x := (nar .byte r32)) (by decide) (by decide) rfl (g := (mkF m 35 #[.val (.int q1), .val (.long q2), .second, .val (.int q3), .val (.int q4), .val (.ref b2), .unset, .unset, .unset] [(.int r32), (.int (2 : Int32)), (.ref b2)])) rfl rfl (hb hby at_35) ?_
  intro T35 h35 F35 X35 e35 W35 hF35 A35
  have N35 := Fr.snoc X35 N32 gb2
  have Z0_35 : n0 ≤ h35.size := by rw [W35.size]; exact Z0_25
  show own_Ends p e below s room_1.cells room_1.slots (Q0 Z q1 q2 q3 q4 h0 n0) T35 (mkF m 36 #[.val (.int q1), .val (.long q2), .second, .val (.int q3), .val (.int q4), .val (.ref b2), .unset, .unset, .unset] [])
  refine own_go (mkF m 38 #[.val (.int q1), .val (.long q2), .second, .val (.int q3), .val (.int q4), .val (.ref b2), .unset, .unset, .unset] [(.ref b2)]) (fun t k => XS.aload X35.here hx rfl (hb hby at_36) rfl rfl k) ?_
  refine own_go (mkF m 39 #[.val (.int q1), .val (.long q2), .second, .val (.int q3), .val (.int q4), .val (.ref b2), .unset, .unset, .unset] [(.int (3 : Int32)), (.ref b2)]) (fun t k => XS.iconst X35.here hx rfl (hb hby at_38) k) ?_
  refine own_go (mkF m 40 #[.val (.int q1), .val (.long q2), .second, .val (.int q3), .val (.int q4), .val (.ref b2), .unset, .unset, .unset] [(.int q1), (.int (3 : Int32)), (.ref b2)]) (fun t k => XS.iloadN X35.here hx rfl (hb hby at_39) rfl k) ?_
  refine own_go (mkF m 41 #[.val (.int q1), .val (.long q2), .second, .val (.int q3), .val (.int q4), .val (.ref b2), .unset, .unset, .unset] [(.long q2), (.int q1), (.int (3 : Int32)), (.ref b2)]) (fun t k => XS.lloadN X35.here hx rfl (hb hby at_40) rfl k) ?_
  refine own_go (mkF m 42 #[.val (.int q1), .val (.long q2), .second, .val (.int q3), .val (.int q4), .val (.ref b2), .unset, .unset, .unset] [(.int (3 : Int32)), (.long q2), (.int q1), (.int (3 : Int32)), (.ref b2)]) (fun t k => XS.iconst X35.here hx rfl (hb hby at_41) k) ?_
  have lt42_2 : (3 : Int32).toInt = 3 := rfl
  refine own_callS X35 hx hZ (y := (⟨"com/example/lease_lock_service/leaselockservice/http/RequestHeadEndPinLaw", "pick", "(IJI)B"⟩ : MethodName)) hown (hw _ (List.mem_of_getElem? (i := 1) rfl)) (hw _ (List.mem_of_getElem? (i := 2) rfl)) (hw _ (List.mem_of_getElem? (i := 3) rfl)) (hw _ (List.mem_of_getElem? (i := 4) rfl)) (by decide) e35 (rmP l Z a0 hw [] q1 q2 (3 : Int32) h35 n0 Z0_35) 2 (by decide) (by decide) (by decide) (by decide) (g := (mkF m 42 #[.val (.int q1), .val (.long q2), .second, .val (.int q3), .val (.int q4), .val (.ref b2), .unset, .unset, .unset] [(.int (3 : Int32)), (.long q2), (.int q1), (.int (3 : Int32)), (.ref b2)])) rfl (by rw [hml]; rfl) [(.int q1), (.long q2), (.int (3 : Int32))] [(.int (3 : Int32)), (.ref b2)] (lenOf pd0_0 rfl) rfl rfl (by show 2 * 0 + _ ≤ _; exact Nat.le_of_eq rfl) (hb hby at_42) ?_
  intro rv42 T42 h42 L42 X42 e42 hQ42
  obtain ⟨⟨r42, rfl, hr42⟩, NQ42, eq42⟩ := hQ42
  rw [eq42] at e42
  have rr42 := rng32 r42
  have N42 := Fr.app N35 NQ42
  show own_Ends p e below s room_1.cells room_1.slots (Q0 Z q1 q2 q3 q4 h0 n0) T42 (mkF m 45 #[.val (.int q1), .val (.long q2), .second, .val (.int q3), .val (.int q4), .val (.ref b2), .unset, .unset, .unset] [(.int r42), (.int (3 : Int32)), (.ref b2)])
  refine own_bastore X42 hx hZ e42 A35 (j := (3 : Int32)) (x := (nar .byte r42)) (by decide) (by decide) rfl (g := (mkF m 45 #[.val (.int q1), .val (.long q2), .second, .val (.int q3), .val (.int q4), .val (.ref b2), .unset, .unset, .unset] [(.int r42), (.int (3 : Int32)), (.ref b2)])) rfl rfl (hb hby at_45) ?_
  intro T45 h45 F45 X45 e45 W45 hF45 A45
  have N45 := Fr.snoc X45 N42 gb2
  have Z0_45 : n0 ≤ h45.size := by rw [W45.size]; exact Z0_35
  show own_Ends p e below s room_1.cells room_1.slots (Q0 Z q1 q2 q3 q4 h0 n0) T45 (mkF m 46 #[.val (.int q1), .val (.long q2), .second, .val (.int q3), .val (.int q4), .val (.ref b2), .unset, .unset, .unset] [])
  refine own_go (mkF m 48 #[.val (.int q1), .val (.long q2), .second, .val (.int q3), .val (.int q4), .val (.ref b2), .unset, .unset, .unset] [(.ref b2)]) (fun t k => XS.aload X45.here hx rfl (hb hby at_46) rfl rfl k) ?_
  refine own_go (mkF m 49 #[.val (.int q1), .val (.long q2), .second, .val (.int q3), .val (.int q4), .val (.ref b2), .unset, .unset, .unset] [(.int (4 : Int32)), (.ref b2)]) (fun t k => XS.iconst X45.here hx rfl (hb hby at_48) k) ?_
  refine own_go (mkF m 50 #[.val (.int q1), .val (.long q2), .second, .val (.int q3), .val (.int q4), .val (.ref b2), .unset, .unset, .unset] [(.int q1), (.int (4 : Int32)), (.ref b2)]) (fun t k => XS.iloadN X45.here hx rfl (hb hby at_49) rfl k) ?_
  refine own_go (mkF m 51 #[.val (.int q1), .val (.long q2), .second, .val (.int q3), .val (.int q4), .val (.ref b2), .unset, .unset, .unset] [(.long q2), (.int q1), (.int (4 : Int32)), (.ref b2)]) (fun t k => XS.lloadN X45.here hx rfl (hb hby at_50) rfl k) ?_
  refine own_go (mkF m 52 #[.val (.int q1), .val (.long q2), .second, .val (.int q3), .val (.int q4), .val (.ref b2), .unset, .unset, .unset] [(.int (4 : Int32)), (.long q2), (.int q1), (.int (4 : Int32)), (.ref b2)]) (fun t k => XS.iconst X45.here hx rfl (hb hby at_51) k) ?_
  have lt52_2 : (4 : Int32).toInt = 4 := rfl
  refine own_callS X45 hx hZ (y := (⟨"com/example/lease_lock_service/leaselockservice/http/RequestHeadEndPinLaw", "pick", "(IJI)B"⟩ : MethodName)) hown (hw _ (List.mem_of_getElem? (i := 1) rfl)) (hw _ (List.mem_of_getElem? (i := 2) rfl)) (hw _ (List.mem_of_getElem? (i := 3) rfl)) (hw _ (List.mem_of_getElem? (i := 4) rfl)) (by decide) e45 (rmP l Z a0 hw [] q1 q2 (4 : Int32) h45 n0 Z0_45) 2 (by decide) (by decide) (by decide) (by decide) (g := (mkF m 52 #[.val (.int q1), .val (.long q2), .second, .val (.int q3), .val (.int q4), .val (.ref b2), .unset, .unset, .unset] [(.int (4 : Int32)), (.long q2), (.int q1), (.int (4 : Int32)), (.ref b2)])) rfl (by rw [hml]; rfl) [(.int q1), (.long q2), (.int (4 : Int32))] [(.int (4 : Int32)), (.ref b2)] (lenOf pd0_0 rfl) rfl rfl (by show 2 * 0 + _ ≤ _; exact Nat.le_of_eq rfl) (hb hby at_52) ?_
  intro rv52 T52 h52 L52 X52 e52 hQ52
  obtain ⟨⟨r52, rfl, hr52⟩, NQ52, eq52⟩ := hQ52
  rw [eq52] at e52
  have rr52 := rng32 r52
  have N52 := Fr.app N45 NQ52
  show own_Ends p e below s room_1.cells room_1.slots (Q0 Z q1 q2 q3 q4 h0 n0) T52 (mkF m 55 #[.val (.int q1), .val (.long q2), .second, .val (.int q3), .val (.int q4), .val (.ref b2), .unset, .unset, .unset] [(.int r52), (.int (4 : Int32)), (.ref b2)])
  refine own_bastore X52 hx hZ e52 A45 (j := (4 : Int32)) (x := (nar .byte r52)) (by decide) (by decide) rfl (g := (mkF m 55 #[.val (.int q1), .val (.long q2), .second, .val (.int q3), .val (.int q4), .val (.ref b2), .unset, .unset, .unset] [(.int r52), (.int (4 : Int32)), (.ref b2)])) rfl rfl (hb hby at_55) ?_
  intro T55 h55 F55 X55 e55 W55 hF55 A55
  have N55 := Fr.snoc X55 N52 gb2
  have Z0_55 : n0 ≤ h55.size := by rw [W55.size]; exact Z0_45
  show own_Ends p e below s room_1.cells room_1.slots (Q0 Z q1 q2 q3 q4 h0 n0) T55 (mkF m 56 #[.val (.int q1), .val (.long q2), .second, .val (.int q3), .val (.int q4), .val (.ref b2), .unset, .unset, .unset] [])
  refine own_go (mkF m 58 #[.val (.int q1), .val (.long q2), .second, .val (.int q3), .val (.int q4), .val (.ref b2), .unset, .unset, .unset] [(.ref b2)]) (fun t k => XS.aload X55.here hx rfl (hb hby at_56) rfl rfl k) ?_
  refine own_go (mkF m 59 #[.val (.int q1), .val (.long q2), .second, .val (.int q3), .val (.int q4), .val (.ref b2), .unset, .unset, .unset] [(.int (5 : Int32)), (.ref b2)]) (fun t k => XS.iconst X55.here hx rfl (hb hby at_58) k) ?_
  refine own_go (mkF m 60 #[.val (.int q1), .val (.long q2), .second, .val (.int q3), .val (.int q4), .val (.ref b2), .unset, .unset, .unset] [(.int q1), (.int (5 : Int32)), (.ref b2)]) (fun t k => XS.iloadN X55.here hx rfl (hb hby at_59) rfl k) ?_
  refine own_go (mkF m 61 #[.val (.int q1), .val (.long q2), .second, .val (.int q3), .val (.int q4), .val (.ref b2), .unset, .unset, .unset] [(.long q2), (.int q1), (.int (5 : Int32)), (.ref b2)]) (fun t k => XS.lloadN X55.here hx rfl (hb hby at_60) rfl k) ?_
  refine own_go (mkF m 62 #[.val (.int q1), .val (.long q2), .second, .val (.int q3), .val (.int q4), .val (.ref b2), .unset, .unset, .unset] [(.int (5 : Int32)), (.long q2), (.int q1), (.int (5 : Int32)), (.ref b2)]) (fun t k => XS.iconst X55.here hx rfl (hb hby at_61) k) ?_
  have lt62_2 : (5 : Int32).toInt = 5 := rfl
  refine own_callS X55 hx hZ (y := (⟨"com/example/lease_lock_service/leaselockservice/http/RequestHeadEndPinLaw", "pick", "(IJI)B"⟩ : MethodName)) hown (hw _ (List.mem_of_getElem? (i := 1) rfl)) (hw _ (List.mem_of_getElem? (i := 2) rfl)) (hw _ (List.mem_of_getElem? (i := 3) rfl)) (hw _ (List.mem_of_getElem? (i := 4) rfl)) (by decide) e55 (rmP l Z a0 hw [] q1 q2 (5 : Int32) h55 n0 Z0_55) 2 (by decide) (by decide) (by decide) (by decide) (g := (mkF m 62 #[.val (.int q1), .val (.long q2), .second, .val (.int q3), .val (.int q4), .val (.ref b2), .unset, .unset, .unset] [(.int (5 : Int32)), (.long q2), (.int q1), (.int (5 : Int32)), (.ref b2)])) rfl (by rw [hml]; rfl) [(.int q1), (.long q2), (.int (5 : Int32))] [(.int (5 : Int32)), (.ref b2)] (lenOf pd0_0 rfl) rfl rfl (by show 2 * 0 + _ ≤ _; exact Nat.le_of_eq rfl) (hb hby at_62) ?_
  intro rv62 T62 h62 L62 X62 e62 hQ62
  obtain ⟨⟨r62, rfl, hr62⟩, NQ62, eq62⟩ := hQ62
  rw [eq62] at e62
  have rr62 := rng32 r62
  have N62 := Fr.app N55 NQ62
  show own_Ends p e below s room_1.cells room_1.slots (Q0 Z q1 q2 q3 q4 h0 n0) T62 (mkF m 65 #[.val (.int q1), .val (.long q2), .second, .val (.int q3), .val (.int q4), .val (.ref b2), .unset, .unset, .unset] [(.int r62), (.int (5 : Int32)), (.ref b2)])
  refine own_bastore X62 hx hZ e62 A55 (j := (5 : Int32)) (x := (nar .byte r62)) (by decide) (by decide) rfl (g := (mkF m 65 #[.val (.int q1), .val (.long q2), .second, .val (.int q3), .val (.int q4), .val (.ref b2), .unset, .unset, .unset] [(.int r62), (.int (5 : Int32)), (.ref b2)])) rfl rfl (hb hby at_65) ?_
  intro T65 h65 F65 X65 e65 W65 hF65 A65
  have N65 := Fr.snoc X65 N62 gb2
  have Z0_65 : n0 ≤ h65.size := by rw [W65.size]; exact Z0_55
  show own_Ends p e below s room_1.cells room_1.slots (Q0 Z q1 q2 q3 q4 h0 n0) T65 (mkF m 66 #[.val (.int q1), .val (.long q2), .second, .val (.int q3), .val (.int q4), .val (.ref b2), .unset, .unset, .unset] [])
  refine own_go (mkF m 68 #[.val (.int q1), .val (.long q2), .second, .val (.int q3), .val (.int q4), .val (.ref b2), .unset, .unset, .unset] [(.ref b2)]) (fun t k => XS.aload X65.here hx rfl (hb hby at_66) rfl rfl k) ?_
  refine own_go (mkF m 70 #[.val (.int q1), .val (.long q2), .second, .val (.int q3), .val (.int q4), .val (.ref b2), .unset, .unset, .unset] [(.int (6 : Int32)), (.ref b2)]) (fun t k => XS.bipush X65.here hx rfl (hb hby at_68) k) ?_
  refine own_go (mkF m 71 #[.val (.int q1), .val (.long q2), .second, .val (.int q3), .val (.int q4), .val (.ref b2), .unset, .unset, .unset] [(.int q1), (.int (6 : Int32)), (.ref b2)]) (fun t k => XS.iloadN X65.here hx rfl (hb hby at_70) rfl k) ?_
  refine own_go (mkF m 72 #[.val (.int q1), .val (.long q2), .second, .val (.int q3), .val (.int q4), .val (.ref b2), .unset, .unset, .unset] [(.long q2), (.int q1), (.int (6 : Int32)), (.ref b2)]) (fun t k => XS.lloadN X65.here hx rfl (hb hby at_71) rfl k) ?_
  refine own_go (mkF m 74 #[.val (.int q1), .val (.long q2), .second, .val (.int q3), .val (.int q4), .val (.ref b2), .unset, .unset, .unset] [(.int (6 : Int32)), (.long q2), (.int q1), (.int (6 : Int32)), (.ref b2)]) (fun t k => XS.bipush X65.here hx rfl (hb hby at_72) k) ?_
  have lt74_2 : (6 : Int32).toInt = 6 := rfl
  refine own_callS X65 hx hZ (y := (⟨"com/example/lease_lock_service/leaselockservice/http/RequestHeadEndPinLaw", "pick", "(IJI)B"⟩ : MethodName)) hown (hw _ (List.mem_of_getElem? (i := 1) rfl)) (hw _ (List.mem_of_getElem? (i := 2) rfl)) (hw _ (List.mem_of_getElem? (i := 3) rfl)) (hw _ (List.mem_of_getElem? (i := 4) rfl)) (by decide) e65 (rmP l Z a0 hw [] q1 q2 (6 : Int32) h65 n0 Z0_65) 2 (by decide) (by decide) (by decide) (by decide) (g := (mkF m 74 #[.val (.int q1), .val (.long q2), .second, .val (.int q3), .val (.int q4), .val (.ref b2), .unset, .unset, .unset] [(.int (6 : Int32)), (.long q2), (.int q1), (.int (6 : Int32)), (.ref b2)])) rfl (by rw [hml]; rfl) [(.int q1), (.long q2), (.int (6 : Int32))] [(.int (6 : Int32)), (.ref b2)] (lenOf pd0_0 rfl) rfl rfl (by show 2 * 0 + _ ≤ _; exact Nat.le_of_eq rfl) (hb hby at_74) ?_
  intro rv74 T74 h74 L74 X74 e74 hQ74
  obtain ⟨⟨r74, rfl, hr74⟩, NQ74, eq74⟩ := hQ74
  rw [eq74] at e74
  have rr74 := rng32 r74
  have N74 := Fr.app N65 NQ74
  show own_Ends p e below s room_1.cells room_1.slots (Q0 Z q1 q2 q3 q4 h0 n0) T74 (mkF m 77 #[.val (.int q1), .val (.long q2), .second, .val (.int q3), .val (.int q4), .val (.ref b2), .unset, .unset, .unset] [(.int r74), (.int (6 : Int32)), (.ref b2)])
  refine own_bastore X74 hx hZ e74 A65 (j := (6 : Int32)) (x := (nar .byte r74)) (by decide) (by decide) rfl (g := (mkF m 77 #[.val (.int q1), .val (.long q2), .second, .val (.int q3), .val (.int q4), .val (.ref b2), .unset, .unset, .unset] [(.int r74), (.int (6 : Int32)), (.ref b2)])) rfl rfl (hb hby at_77) ?_
  intro T77 h77 F77 X77 e77 W77 hF77 A77
  have N77 := Fr.snoc X77 N74 gb2
  have Z0_77 : n0 ≤ h77.size := by rw [W77.size]; exact Z0_65
  show own_Ends p e below s room_1.cells room_1.slots (Q0 Z q1 q2 q3 q4 h0 n0) T77 (mkF m 78 #[.val (.int q1), .val (.long q2), .second, .val (.int q3), .val (.int q4), .val (.ref b2), .unset, .unset, .unset] [])
  refine own_go (mkF m 80 #[.val (.int q1), .val (.long q2), .second, .val (.int q3), .val (.int q4), .val (.ref b2), .unset, .unset, .unset] [(.ref b2)]) (fun t k => XS.aload X77.here hx rfl (hb hby at_78) rfl rfl k) ?_
  refine own_go (mkF m 82 #[.val (.int q1), .val (.long q2), .second, .val (.int q3), .val (.int q4), .val (.ref b2), .unset, .unset, .unset] [(.int (7 : Int32)), (.ref b2)]) (fun t k => XS.bipush X77.here hx rfl (hb hby at_80) k) ?_
  refine own_go (mkF m 83 #[.val (.int q1), .val (.long q2), .second, .val (.int q3), .val (.int q4), .val (.ref b2), .unset, .unset, .unset] [(.int q1), (.int (7 : Int32)), (.ref b2)]) (fun t k => XS.iloadN X77.here hx rfl (hb hby at_82) rfl k) ?_
  refine own_go (mkF m 84 #[.val (.int q1), .val (.long q2), .second, .val (.int q3), .val (.int q4), .val (.ref b2), .unset, .unset, .unset] [(.long q2), (.int q1), (.int (7 : Int32)), (.ref b2)]) (fun t k => XS.lloadN X77.here hx rfl (hb hby at_83) rfl k) ?_
  refine own_go (mkF m 86 #[.val (.int q1), .val (.long q2), .second, .val (.int q3), .val (.int q4), .val (.ref b2), .unset, .unset, .unset] [(.int (7 : Int32)), (.long q2), (.int q1), (.int (7 : Int32)), (.ref b2)]) (fun t k => XS.bipush X77.here hx rfl (hb hby at_84) k) ?_
  have lt86_2 : (7 : Int32).toInt = 7 := rfl
  refine own_callS X77 hx hZ (y := (⟨"com/example/lease_lock_service/leaselockservice/http/RequestHeadEndPinLaw", "pick", "(IJI)B"⟩ : MethodName)) hown (hw _ (List.mem_of_getElem? (i := 1) rfl)) (hw _ (List.mem_of_getElem? (i := 2) rfl)) (hw _ (List.mem_of_getElem? (i := 3) rfl)) (hw _ (List.mem_of_getElem? (i := 4) rfl)) (by decide) e77 (rmP l Z a0 hw [] q1 q2 (7 : Int32) h77 n0 Z0_77) 2 (by decide) (by decide) (by decide) (by decide) (g := (mkF m 86 #[.val (.int q1), .val (.long q2), .second, .val (.int q3), .val (.int q4), .val (.ref b2), .unset, .unset, .unset] [(.int (7 : Int32)), (.long q2), (.int q1), (.int (7 : Int32)), (.ref b2)])) rfl (by rw [hml]; rfl) [(.int q1), (.long q2), (.int (7 : Int32))] [(.int (7 : Int32)), (.ref b2)] (lenOf pd0_0 rfl) rfl rfl (by show 2 * 0 + _ ≤ _; exact Nat.le_of_eq rfl) (hb hby at_86) ?_
  intro rv86 T86 h86 L86 X86 e86 hQ86
  obtain ⟨⟨r86, rfl, hr86⟩, NQ86, eq86⟩ := hQ86
  rw [eq86] at e86
  have rr86 := rng32 r86
  have N86 := Fr.app N77 NQ86
  show own_Ends p e below s room_1.cells room_1.slots (Q0 Z q1 q2 q3 q4 h0 n0) T86 (mkF m 89 #[.val (.int q1), .val (.long q2), .second, .val (.int q3), .val (.int q4), .val (.ref b2), .unset, .unset, .unset] [(.int r86), (.int (7 : Int32)), (.ref b2)])
  refine own_bastore X86 hx hZ e86 A77 (j := (7 : Int32)) (x := (nar .byte r86)) (by decide) (by decide) rfl (g := (mkF m 89 #[.val (.int q1), .val (.long q2), .second, .val (.int q3), .val (.int q4), .val (.ref b2), .unset, .unset, .unset] [(.int r86), (.int (7 : Int32)), (.ref b2)])) rfl rfl (hb hby at_89) ?_
  intro T89 h89 F89 X89 e89 W89 hF89 A89
  have N89 := Fr.snoc X89 N86 gb2
  have Z0_89 : n0 ≤ h89.size := by rw [W89.size]; exact Z0_77
  show own_Ends p e below s room_1.cells room_1.slots (Q0 Z q1 q2 q3 q4 h0 n0) T89 (mkF m 90 #[.val (.int q1), .val (.long q2), .second, .val (.int q3), .val (.int q4), .val (.ref b2), .unset, .unset, .unset] [])
  refine own_go (mkF m 91 #[.val (.int q1), .val (.long q2), .second, .val (.int q3), .val (.int q4), .val (.ref b2), .unset, .unset, .unset] [(.int q3)]) (fun t k => XS.iloadN X89.here hx rfl (hb hby at_90) rfl k) ?_
  refine own_go (mkF m 93 #[.val (.int q1), .val (.long q2), .second, .val (.int q3), .val (.int q4), .val (.ref b2), .unset, .unset, .unset] [(.int (2147483647 : Int32)), (.int q3)]) (fun t k => X89.ldcInt hx hown (mvT hZ (hw _ (List.mem_of_getElem? (i := 5) rfl))) (g := (mkF m 91 #[.val (.int q1), .val (.long q2), .second, .val (.int q3), .val (.int q4), .val (.ref b2), .unset, .unset, .unset] [(.int q3)])) rfl (hb hby at_91) _ k) ?_
  refine own_go (mkF m 94 #[.val (.int q1), .val (.long q2), .second, .val (.int q3), .val (.int q4), .val (.ref b2), .unset, .unset, .unset] [(.int (q3 &&& (2147483647 : Int32)))]) (fun t k => XS.iand X89.here hx rfl (hb hby at_93) rfl k) ?_
  generalize hv93 : (q3 &&& (2147483647 : Int32)) = v93
  have f93 : v93.toInt = q3.toInt % 2147483648 := by rw [← hv93]; exact c_mask q3 (2147483647 : Int32) 31 (by decide) (by decide)
  have r93 := rng32 v93
  refine own_go (mkF m 96 #[.val (.int q1), .val (.long q2), .second, .val (.int q3), .val (.int q4), .val (.ref b2), .unset, .unset, .unset] [(.int (9 : Int32)), (.int v93)]) (fun t k => XS.bipush X89.here hx rfl (hb hby at_94) k) ?_
  refine own_go (mkF m 97 #[.val (.int q1), .val (.long q2), .second, .val (.int q3), .val (.int q4), .val (.ref b2), .unset, .unset, .unset] [(.int (v93 % (9 : Int32)))]) (fun t k => Jvm.RoadKit.iremM X89 hx rfl (hb hby at_96) rfl (by decide) k) ?_
  generalize hv96 : (v93 % (9 : Int32)) = v96
  have f96 : (0 ≤ v93.toInt → v96.toInt = v93.toInt % 9) ∧ (v93.toInt < 0 → v96.toInt = -((-v93.toInt) % 9)) := by rw [← hv96]; exact c_irem v93 (9 : Int32) 9 (by decide)
  have r96 := rng32 v96
  refine own_go (mkF m 99 #[.val (.int q1), .val (.long q2), .second, .val (.int q3), .val (.int q4), .val (.ref b2), .val (.int v96), .unset, .unset] []) (fun t k => XS.istore X89.here hx rfl (hb hby at_97) rfl (l' := #[.val (.int q1), .val (.long q2), .second, .val (.int q3), .val (.int q4), .val (.ref b2), .val (.int v96), .unset, .unset]) rfl k) ?_
  refine own_go (mkF m 101 #[.val (.int q1), .val (.long q2), .second, .val (.int q3), .val (.int q4), .val (.ref b2), .val (.int v96), .unset, .unset] [(.int q4)]) (fun t k => XS.iload X89.here hx rfl (hb hby at_99) rfl k) ?_
  refine own_go (mkF m 103 #[.val (.int q1), .val (.long q2), .second, .val (.int q3), .val (.int q4), .val (.ref b2), .val (.int v96), .unset, .unset] [(.int (2147483647 : Int32)), (.int q4)]) (fun t k => X89.ldcInt hx hown (mvT hZ (hw _ (List.mem_of_getElem? (i := 5) rfl))) (g := (mkF m 101 #[.val (.int q1), .val (.long q2), .second, .val (.int q3), .val (.int q4), .val (.ref b2), .val (.int v96), .unset, .unset] [(.int q4)])) rfl (hb hby at_101) _ k) ?_
  refine own_go (mkF m 104 #[.val (.int q1), .val (.long q2), .second, .val (.int q3), .val (.int q4), .val (.ref b2), .val (.int v96), .unset, .unset] [(.int (q4 &&& (2147483647 : Int32)))]) (fun t k => XS.iand X89.here hx rfl (hb hby at_103) rfl k) ?_
  generalize hv103 : (q4 &&& (2147483647 : Int32)) = v103
  have f103 : v103.toInt = q4.toInt % 2147483648 := by rw [← hv103]; exact c_mask q4 (2147483647 : Int32) 31 (by decide) (by decide)
  have r103 := rng32 v103
  refine own_go (mkF m 106 #[.val (.int q1), .val (.long q2), .second, .val (.int q3), .val (.int q4), .val (.ref b2), .val (.int v96), .unset, .unset] [(.int (9 : Int32)), (.int v103)]) (fun t k => XS.bipush X89.here hx rfl (hb hby at_104) k) ?_
  refine own_go (mkF m 107 #[.val (.int q1), .val (.long q2), .second, .val (.int q3), .val (.int q4), .val (.ref b2), .val (.int v96), .unset, .unset] [(.int (v103 % (9 : Int32)))]) (fun t k => Jvm.RoadKit.iremM X89 hx rfl (hb hby at_106) rfl (by decide) k) ?_
  generalize hv106 : (v103 % (9 : Int32)) = v106
  have f106 : (0 ≤ v103.toInt → v106.toInt = v103.toInt % 9) ∧ (v103.toInt < 0 → v106.toInt = -((-v103.toInt) % 9)) := by rw [← hv106]; exact c_irem v103 (9 : Int32) 9 (by decide)
  have r106 := rng32 v106
  refine own_go (mkF m 109 #[.val (.int q1), .val (.long q2), .second, .val (.int q3), .val (.int q4), .val (.ref b2), .val (.int v96), .val (.int v106), .unset] []) (fun t k => XS.istore X89.here hx rfl (hb hby at_107) rfl (l' := #[.val (.int q1), .val (.long q2), .second, .val (.int q3), .val (.int q4), .val (.ref b2), .val (.int v96), .val (.int v106), .unset]) rfl k) ?_
  refine own_go (mkF m 110 #[.val (.int q1), .val (.long q2), .second, .val (.int q3), .val (.int q4), .val (.ref b2), .val (.int v96), .val (.int v106), .unset] [(.int (-1 : Int32))]) (fun t k => XS.iconst X89.here hx rfl (hb hby at_109) k) ?_
  refine own_go (mkF m 112 #[.val (.int q1), .val (.long q2), .second, .val (.int q3), .val (.int q4), .val (.ref b2), .val (.int v96), .val (.int v106), .val (.int (-1 : Int32))] []) (fun t k => XS.istore X89.here hx rfl (hb hby at_110) rfl (l' := #[.val (.int q1), .val (.long q2), .second, .val (.int q3), .val (.int q4), .val (.ref b2), .val (.int v96), .val (.int v106), .val (.int (-1 : Int32))]) rfl k) ?_
  refine own_go (mkF m 114 #[.val (.int q1), .val (.long q2), .second, .val (.int q3), .val (.int q4), .val (.ref b2), .val (.int v96), .val (.int v106), .val (.int (-1 : Int32))] [(.ref b2)]) (fun t k => XS.aload X89.here hx rfl (hb hby at_112) rfl rfl k) ?_
  refine own_go (mkF m 116 #[.val (.int q1), .val (.long q2), .second, .val (.int q3), .val (.int q4), .val (.ref b2), .val (.int v96), .val (.int v106), .val (.int (-1 : Int32))] [(.int v96), (.ref b2)]) (fun t k => XS.iload X89.here hx rfl (hb hby at_114) rfl k) ?_
  refine own_go (mkF m 118 #[.val (.int q1), .val (.long q2), .second, .val (.int q3), .val (.int q4), .val (.ref b2), .val (.int v96), .val (.int v106), .val (.int (-1 : Int32))] [(.int v106), (.int v96), (.ref b2)]) (fun t k => XS.iload X89.here hx rfl (hb hby at_116) rfl k) ?_
  refine own_go (mkF m 120 #[.val (.int q1), .val (.long q2), .second, .val (.int q3), .val (.int q4), .val (.ref b2), .val (.int v96), .val (.int v106), .val (.int (-1 : Int32))] [(.int (8 : Int32)), (.int v106), (.int v96), (.ref b2)]) (fun t k => XS.bipush X89.here hx rfl (hb hby at_118) k) ?_
  have lt120_3 : (8 : Int32).toInt = 8 := rfl
  refine own_callS X89 hx hZ (y := (⟨"com/example/lease_lock_service/leaselockservice/http/RequestHeadEndPinLaw", "endsAt", "([BIII)Z"⟩ : MethodName)) hown (hw _ (List.mem_of_getElem? (i := 6) rfl)) (hw _ (List.mem_of_getElem? (i := 7) rfl)) (hw _ (List.mem_of_getElem? (i := 3) rfl)) (hw _ (List.mem_of_getElem? (i := 8) rfl)) (by decide) e89 (rmE l Z a0 hw [] b2 v96 v106 (8 : Int32) F89 h89 n0 Z0_89 A89 (by omega)) 0 (by decide) (by decide) (by decide) (by decide) (g := (mkF m 120 #[.val (.int q1), .val (.long q2), .second, .val (.int q3), .val (.int q4), .val (.ref b2), .val (.int v96), .val (.int v106), .val (.int (-1 : Int32))] [(.int (8 : Int32)), (.int v106), (.int v96), (.ref b2)])) rfl (by rw [hml]; rfl) [(.ref b2), (.int v96), (.int v106), (.int (8 : Int32))] [] (lenOf pd0_1 rfl) rfl rfl (by show 2 * 0 + _ ≤ _; exact Nat.le_of_eq rfl) (hb hby at_120) ?_
  intro rv120 T120 h120 L120 X120 e120 hQ120
  obtain ⟨⟨r120, rfl, hr120⟩, NQ120, eq120⟩ := hQ120
  rw [eq120] at e120
  have N120 := Fr.app N89 NQ120
  show own_Ends p e below s room_1.cells room_1.slots (Q0 Z q1 q2 q3 q4 h0 n0) T120 (mkF m 123 #[.val (.int q1), .val (.long q2), .second, .val (.int q3), .val (.int q4), .val (.ref b2), .val (.int v96), .val (.int v106), .val (.int (-1 : Int32))] [(.int r120)])
  have j130 : ∀ (x8 : Int32), own_J (own_G F89) v96.toInt v106.toInt 8 x8.toInt → own_Ends p e below s room_1.cells room_1.slots (Q0 Z q1 q2 q3 q4 h0 n0) T120 (mkF m 130 #[.val (.int q1), .val (.long q2), .second, .val (.int q3), .val (.int q4), .val (.ref b2), .val (.int v96), .val (.int v106), .val (.int x8)] []) := by
    intro x8 hj130
    have rj130 := rng32 x8
    refine own_go (mkF m 132 #[.val (.int q1), .val (.long q2), .second, .val (.int q3), .val (.int q4), .val (.ref b2), .val (.int v96), .val (.int v106), .val (.int x8)] [(.ref b2)]) (fun t k => XS.aload X120.here hx rfl (hb hby at_130) rfl rfl k) ?_
    refine own_go (mkF m 134 #[.val (.int q1), .val (.long q2), .second, .val (.int q3), .val (.int q4), .val (.ref b2), .val (.int v96), .val (.int v106), .val (.int x8)] [(.int v96), (.ref b2)]) (fun t k => XS.iload X120.here hx rfl (hb hby at_132) rfl k) ?_
    refine own_go (mkF m 136 #[.val (.int q1), .val (.long q2), .second, .val (.int q3), .val (.int q4), .val (.ref b2), .val (.int v96), .val (.int v106), .val (.int x8)] [(.int v106), (.int v96), (.ref b2)]) (fun t k => XS.iload X120.here hx rfl (hb hby at_134) rfl k) ?_
    refine own_go (mkF m 138 #[.val (.int q1), .val (.long q2), .second, .val (.int q3), .val (.int q4), .val (.ref b2), .val (.int v96), .val (.int v106), .val (.int x8)] [(.int (7 : Int32)), (.int v106), (.int v96), (.ref b2)]) (fun t k => XS.bipush X120.here hx rfl (hb hby at_136) k) ?_
    have lt138_3 : (7 : Int32).toInt = 7 := rfl
    refine own_callS X120 hx hZ (y := (⟨"com/example/lease_lock_service/leaselockservice/http/RequestHeadEndPinLaw", "endsAt", "([BIII)Z"⟩ : MethodName)) hown (hw _ (List.mem_of_getElem? (i := 6) rfl)) (hw _ (List.mem_of_getElem? (i := 7) rfl)) (hw _ (List.mem_of_getElem? (i := 3) rfl)) (hw _ (List.mem_of_getElem? (i := 8) rfl)) (by decide) e120 (rmE l Z a0 hw [] b2 v96 v106 (7 : Int32) F89 h89 n0 Z0_89 A89 (by omega)) 0 (by decide) (by decide) (by decide) (by decide) (g := (mkF m 138 #[.val (.int q1), .val (.long q2), .second, .val (.int q3), .val (.int q4), .val (.ref b2), .val (.int v96), .val (.int v106), .val (.int x8)] [(.int (7 : Int32)), (.int v106), (.int v96), (.ref b2)])) rfl (by rw [hml]; rfl) [(.ref b2), (.int v96), (.int v106), (.int (7 : Int32))] [] (lenOf pd0_1 rfl) rfl rfl (by show 2 * 0 + _ ≤ _; exact Nat.le_of_eq rfl) (hb hby at_138) ?_
    intro rv138 T138 h138 L138 X138 e138 hQ138
    obtain ⟨⟨r138, rfl, hr138⟩, NQ138, eq138⟩ := hQ138
    rw [eq138] at e138
    have N138 := Fr.app N120 NQ138
    show own_Ends p e below s room_1.cells room_1.slots (Q0 Z q1 q2 q3 q4 h0 n0) T138 (mkF m 141 #[.val (.int q1), .val (.long q2), .second, .val (.int q3), .val (.int q4), .val (.ref b2), .val (.int v96), .val (.int v106), .val (.int x8)] [(.int r138)])
    have j148 : ∀ (x7 : Int32), own_J (own_G F89) v96.toInt v106.toInt 7 x7.toInt → own_Ends p e below s room_1.cells room_1.slots (Q0 Z q1 q2 q3 q4 h0 n0) T138 (mkF m 148 #[.val (.int q1), .val (.long q2), .second, .val (.int q3), .val (.int q4), .val (.ref b2), .val (.int v96), .val (.int v106), .val (.int x7)] []) := by
      intro x7 hj148
      have rj148 := rng32 x7
      refine own_go (mkF m 150 #[.val (.int q1), .val (.long q2), .second, .val (.int q3), .val (.int q4), .val (.ref b2), .val (.int v96), .val (.int v106), .val (.int x7)] [(.ref b2)]) (fun t k => XS.aload X138.here hx rfl (hb hby at_148) rfl rfl k) ?_
      refine own_go (mkF m 152 #[.val (.int q1), .val (.long q2), .second, .val (.int q3), .val (.int q4), .val (.ref b2), .val (.int v96), .val (.int v106), .val (.int x7)] [(.int v96), (.ref b2)]) (fun t k => XS.iload X138.here hx rfl (hb hby at_150) rfl k) ?_
      refine own_go (mkF m 154 #[.val (.int q1), .val (.long q2), .second, .val (.int q3), .val (.int q4), .val (.ref b2), .val (.int v96), .val (.int v106), .val (.int x7)] [(.int v106), (.int v96), (.ref b2)]) (fun t k => XS.iload X138.here hx rfl (hb hby at_152) rfl k) ?_
      refine own_go (mkF m 156 #[.val (.int q1), .val (.long q2), .second, .val (.int q3), .val (.int q4), .val (.ref b2), .val (.int v96), .val (.int v106), .val (.int x7)] [(.int (6 : Int32)), (.int v106), (.int v96), (.ref b2)]) (fun t k => XS.bipush X138.here hx rfl (hb hby at_154) k) ?_
      have lt156_3 : (6 : Int32).toInt = 6 := rfl
      refine own_callS X138 hx hZ (y := (⟨"com/example/lease_lock_service/leaselockservice/http/RequestHeadEndPinLaw", "endsAt", "([BIII)Z"⟩ : MethodName)) hown (hw _ (List.mem_of_getElem? (i := 6) rfl)) (hw _ (List.mem_of_getElem? (i := 7) rfl)) (hw _ (List.mem_of_getElem? (i := 3) rfl)) (hw _ (List.mem_of_getElem? (i := 8) rfl)) (by decide) e138 (rmE l Z a0 hw [] b2 v96 v106 (6 : Int32) F89 h89 n0 Z0_89 A89 (by omega)) 0 (by decide) (by decide) (by decide) (by decide) (g := (mkF m 156 #[.val (.int q1), .val (.long q2), .second, .val (.int q3), .val (.int q4), .val (.ref b2), .val (.int v96), .val (.int v106), .val (.int x7)] [(.int (6 : Int32)), (.int v106), (.int v96), (.ref b2)])) rfl (by rw [hml]; rfl) [(.ref b2), (.int v96), (.int v106), (.int (6 : Int32))] [] (lenOf pd0_1 rfl) rfl rfl (by show 2 * 0 + _ ≤ _; exact Nat.le_of_eq rfl) (hb hby at_156) ?_
      intro rv156 T156 h156 L156 X156 e156 hQ156
      obtain ⟨⟨r156, rfl, hr156⟩, NQ156, eq156⟩ := hQ156
      rw [eq156] at e156
      have N156 := Fr.app N138 NQ156
      show own_Ends p e below s room_1.cells room_1.slots (Q0 Z q1 q2 q3 q4 h0 n0) T156 (mkF m 159 #[.val (.int q1), .val (.long q2), .second, .val (.int q3), .val (.int q4), .val (.ref b2), .val (.int v96), .val (.int v106), .val (.int x7)] [(.int r156)])
      have j166 : ∀ (x6 : Int32), own_J (own_G F89) v96.toInt v106.toInt 6 x6.toInt → own_Ends p e below s room_1.cells room_1.slots (Q0 Z q1 q2 q3 q4 h0 n0) T156 (mkF m 166 #[.val (.int q1), .val (.long q2), .second, .val (.int q3), .val (.int q4), .val (.ref b2), .val (.int v96), .val (.int v106), .val (.int x6)] []) := by
        intro x6 hj166
        have rj166 := rng32 x6
        refine own_go (mkF m 168 #[.val (.int q1), .val (.long q2), .second, .val (.int q3), .val (.int q4), .val (.ref b2), .val (.int v96), .val (.int v106), .val (.int x6)] [(.ref b2)]) (fun t k => XS.aload X156.here hx rfl (hb hby at_166) rfl rfl k) ?_
        refine own_go (mkF m 170 #[.val (.int q1), .val (.long q2), .second, .val (.int q3), .val (.int q4), .val (.ref b2), .val (.int v96), .val (.int v106), .val (.int x6)] [(.int v96), (.ref b2)]) (fun t k => XS.iload X156.here hx rfl (hb hby at_168) rfl k) ?_
        refine own_go (mkF m 172 #[.val (.int q1), .val (.long q2), .second, .val (.int q3), .val (.int q4), .val (.ref b2), .val (.int v96), .val (.int v106), .val (.int x6)] [(.int v106), (.int v96), (.ref b2)]) (fun t k => XS.iload X156.here hx rfl (hb hby at_170) rfl k) ?_
        refine own_go (mkF m 173 #[.val (.int q1), .val (.long q2), .second, .val (.int q3), .val (.int q4), .val (.ref b2), .val (.int v96), .val (.int v106), .val (.int x6)] [(.int (5 : Int32)), (.int v106), (.int v96), (.ref b2)]) (fun t k => XS.iconst X156.here hx rfl (hb hby at_172) k) ?_
        have lt173_3 : (5 : Int32).toInt = 5 := rfl
        refine own_callS X156 hx hZ (y := (⟨"com/example/lease_lock_service/leaselockservice/http/RequestHeadEndPinLaw", "endsAt", "([BIII)Z"⟩ : MethodName)) hown (hw _ (List.mem_of_getElem? (i := 6) rfl)) (hw _ (List.mem_of_getElem? (i := 7) rfl)) (hw _ (List.mem_of_getElem? (i := 3) rfl)) (hw _ (List.mem_of_getElem? (i := 8) rfl)) (by decide) e156 (rmE l Z a0 hw [] b2 v96 v106 (5 : Int32) F89 h89 n0 Z0_89 A89 (by omega)) 0 (by decide) (by decide) (by decide) (by decide) (g := (mkF m 173 #[.val (.int q1), .val (.long q2), .second, .val (.int q3), .val (.int q4), .val (.ref b2), .val (.int v96), .val (.int v106), .val (.int x6)] [(.int (5 : Int32)), (.int v106), (.int v96), (.ref b2)])) rfl (by rw [hml]; rfl) [(.ref b2), (.int v96), (.int v106), (.int (5 : Int32))] [] (lenOf pd0_1 rfl) rfl rfl (by show 2 * 0 + _ ≤ _; exact Nat.le_of_eq rfl) (hb hby at_173) ?_
        intro rv173 T173 h173 L173 X173 e173 hQ173
        obtain ⟨⟨r173, rfl, hr173⟩, NQ173, eq173⟩ := hQ173
        rw [eq173] at e173
        have N173 := Fr.app N156 NQ173
        show own_Ends p e below s room_1.cells room_1.slots (Q0 Z q1 q2 q3 q4 h0 n0) T173 (mkF m 176 #[.val (.int q1), .val (.long q2), .second, .val (.int q3), .val (.int q4), .val (.ref b2), .val (.int v96), .val (.int v106), .val (.int x6)] [(.int r173)])
        have j182 : ∀ (x5 : Int32), own_J (own_G F89) v96.toInt v106.toInt 5 x5.toInt → own_Ends p e below s room_1.cells room_1.slots (Q0 Z q1 q2 q3 q4 h0 n0) T173 (mkF m 182 #[.val (.int q1), .val (.long q2), .second, .val (.int q3), .val (.int q4), .val (.ref b2), .val (.int v96), .val (.int v106), .val (.int x5)] []) := by
          intro x5 hj182
          have rj182 := rng32 x5
          refine own_go (mkF m 184 #[.val (.int q1), .val (.long q2), .second, .val (.int q3), .val (.int q4), .val (.ref b2), .val (.int v96), .val (.int v106), .val (.int x5)] [(.ref b2)]) (fun t k => XS.aload X173.here hx rfl (hb hby at_182) rfl rfl k) ?_
          refine own_go (mkF m 186 #[.val (.int q1), .val (.long q2), .second, .val (.int q3), .val (.int q4), .val (.ref b2), .val (.int v96), .val (.int v106), .val (.int x5)] [(.int v96), (.ref b2)]) (fun t k => XS.iload X173.here hx rfl (hb hby at_184) rfl k) ?_
          refine own_go (mkF m 188 #[.val (.int q1), .val (.long q2), .second, .val (.int q3), .val (.int q4), .val (.ref b2), .val (.int v96), .val (.int v106), .val (.int x5)] [(.int v106), (.int v96), (.ref b2)]) (fun t k => XS.iload X173.here hx rfl (hb hby at_186) rfl k) ?_
          refine own_go (mkF m 189 #[.val (.int q1), .val (.long q2), .second, .val (.int q3), .val (.int q4), .val (.ref b2), .val (.int v96), .val (.int v106), .val (.int x5)] [(.int (4 : Int32)), (.int v106), (.int v96), (.ref b2)]) (fun t k => XS.iconst X173.here hx rfl (hb hby at_188) k) ?_
          have lt189_3 : (4 : Int32).toInt = 4 := rfl
          refine own_callS X173 hx hZ (y := (⟨"com/example/lease_lock_service/leaselockservice/http/RequestHeadEndPinLaw", "endsAt", "([BIII)Z"⟩ : MethodName)) hown (hw _ (List.mem_of_getElem? (i := 6) rfl)) (hw _ (List.mem_of_getElem? (i := 7) rfl)) (hw _ (List.mem_of_getElem? (i := 3) rfl)) (hw _ (List.mem_of_getElem? (i := 8) rfl)) (by decide) e173 (rmE l Z a0 hw [] b2 v96 v106 (4 : Int32) F89 h89 n0 Z0_89 A89 (by omega)) 0 (by decide) (by decide) (by decide) (by decide) (g := (mkF m 189 #[.val (.int q1), .val (.long q2), .second, .val (.int q3), .val (.int q4), .val (.ref b2), .val (.int v96), .val (.int v106), .val (.int x5)] [(.int (4 : Int32)), (.int v106), (.int v96), (.ref b2)])) rfl (by rw [hml]; rfl) [(.ref b2), (.int v96), (.int v106), (.int (4 : Int32))] [] (lenOf pd0_1 rfl) rfl rfl (by show 2 * 0 + _ ≤ _; exact Nat.le_of_eq rfl) (hb hby at_189) ?_
          intro rv189 T189 h189 L189 X189 e189 hQ189
          obtain ⟨⟨r189, rfl, hr189⟩, NQ189, eq189⟩ := hQ189
          rw [eq189] at e189
          have N189 := Fr.app N173 NQ189
          show own_Ends p e below s room_1.cells room_1.slots (Q0 Z q1 q2 q3 q4 h0 n0) T189 (mkF m 192 #[.val (.int q1), .val (.long q2), .second, .val (.int q3), .val (.int q4), .val (.ref b2), .val (.int v96), .val (.int v106), .val (.int x5)] [(.int r189)])
          have j198 : ∀ (x4 : Int32), own_J (own_G F89) v96.toInt v106.toInt 4 x4.toInt → own_Ends p e below s room_1.cells room_1.slots (Q0 Z q1 q2 q3 q4 h0 n0) T189 (mkF m 198 #[.val (.int q1), .val (.long q2), .second, .val (.int q3), .val (.int q4), .val (.ref b2), .val (.int v96), .val (.int v106), .val (.int x4)] []) := by
            intro x4 hj198
            have rj198 := rng32 x4
            refine own_go (mkF m 200 #[.val (.int q1), .val (.long q2), .second, .val (.int q3), .val (.int q4), .val (.ref b2), .val (.int v96), .val (.int v106), .val (.int x4)] [(.ref b2)]) (fun t k => XS.aload X189.here hx rfl (hb hby at_198) rfl rfl k) ?_
            refine own_go (mkF m 202 #[.val (.int q1), .val (.long q2), .second, .val (.int q3), .val (.int q4), .val (.ref b2), .val (.int v96), .val (.int v106), .val (.int x4)] [(.int v96), (.ref b2)]) (fun t k => XS.iload X189.here hx rfl (hb hby at_200) rfl k) ?_
            refine own_go (mkF m 204 #[.val (.int q1), .val (.long q2), .second, .val (.int q3), .val (.int q4), .val (.ref b2), .val (.int v96), .val (.int v106), .val (.int x4)] [(.int v106), (.int v96), (.ref b2)]) (fun t k => XS.iload X189.here hx rfl (hb hby at_202) rfl k) ?_
            refine own_go (mkF m 205 #[.val (.int q1), .val (.long q2), .second, .val (.int q3), .val (.int q4), .val (.ref b2), .val (.int v96), .val (.int v106), .val (.int x4)] [(.int (3 : Int32)), (.int v106), (.int v96), (.ref b2)]) (fun t k => XS.iconst X189.here hx rfl (hb hby at_204) k) ?_
            have lt205_3 : (3 : Int32).toInt = 3 := rfl
            refine own_callS X189 hx hZ (y := (⟨"com/example/lease_lock_service/leaselockservice/http/RequestHeadEndPinLaw", "endsAt", "([BIII)Z"⟩ : MethodName)) hown (hw _ (List.mem_of_getElem? (i := 6) rfl)) (hw _ (List.mem_of_getElem? (i := 7) rfl)) (hw _ (List.mem_of_getElem? (i := 3) rfl)) (hw _ (List.mem_of_getElem? (i := 8) rfl)) (by decide) e189 (rmE l Z a0 hw [] b2 v96 v106 (3 : Int32) F89 h89 n0 Z0_89 A89 (by omega)) 0 (by decide) (by decide) (by decide) (by decide) (g := (mkF m 205 #[.val (.int q1), .val (.long q2), .second, .val (.int q3), .val (.int q4), .val (.ref b2), .val (.int v96), .val (.int v106), .val (.int x4)] [(.int (3 : Int32)), (.int v106), (.int v96), (.ref b2)])) rfl (by rw [hml]; rfl) [(.ref b2), (.int v96), (.int v106), (.int (3 : Int32))] [] (lenOf pd0_1 rfl) rfl rfl (by show 2 * 0 + _ ≤ _; exact Nat.le_of_eq rfl) (hb hby at_205) ?_
            intro rv205 T205 h205 L205 X205 e205 hQ205
            obtain ⟨⟨r205, rfl, hr205⟩, NQ205, eq205⟩ := hQ205
            rw [eq205] at e205
            have N205 := Fr.app N189 NQ205
            show own_Ends p e below s room_1.cells room_1.slots (Q0 Z q1 q2 q3 q4 h0 n0) T205 (mkF m 208 #[.val (.int q1), .val (.long q2), .second, .val (.int q3), .val (.int q4), .val (.ref b2), .val (.int v96), .val (.int v106), .val (.int x4)] [(.int r205)])
            have j214 : ∀ (x3 : Int32), own_J (own_G F89) v96.toInt v106.toInt 3 x3.toInt → own_Ends p e below s room_1.cells room_1.slots (Q0 Z q1 q2 q3 q4 h0 n0) T205 (mkF m 214 #[.val (.int q1), .val (.long q2), .second, .val (.int q3), .val (.int q4), .val (.ref b2), .val (.int v96), .val (.int v106), .val (.int x3)] []) := by
              intro x3 hj214
              have rj214 := rng32 x3
              refine own_go (mkF m 216 #[.val (.int q1), .val (.long q2), .second, .val (.int q3), .val (.int q4), .val (.ref b2), .val (.int v96), .val (.int v106), .val (.int x3)] [(.ref b2)]) (fun t k => XS.aload X205.here hx rfl (hb hby at_214) rfl rfl k) ?_
              refine own_go (mkF m 218 #[.val (.int q1), .val (.long q2), .second, .val (.int q3), .val (.int q4), .val (.ref b2), .val (.int v96), .val (.int v106), .val (.int x3)] [(.int v96), (.ref b2)]) (fun t k => XS.iload X205.here hx rfl (hb hby at_216) rfl k) ?_
              refine own_go (mkF m 220 #[.val (.int q1), .val (.long q2), .second, .val (.int q3), .val (.int q4), .val (.ref b2), .val (.int v96), .val (.int v106), .val (.int x3)] [(.int v106), (.int v96), (.ref b2)]) (fun t k => XS.iload X205.here hx rfl (hb hby at_218) rfl k) ?_
              refine own_go (mkF m 221 #[.val (.int q1), .val (.long q2), .second, .val (.int q3), .val (.int q4), .val (.ref b2), .val (.int v96), .val (.int v106), .val (.int x3)] [(.int (2 : Int32)), (.int v106), (.int v96), (.ref b2)]) (fun t k => XS.iconst X205.here hx rfl (hb hby at_220) k) ?_
              have lt221_3 : (2 : Int32).toInt = 2 := rfl
              refine own_callS X205 hx hZ (y := (⟨"com/example/lease_lock_service/leaselockservice/http/RequestHeadEndPinLaw", "endsAt", "([BIII)Z"⟩ : MethodName)) hown (hw _ (List.mem_of_getElem? (i := 6) rfl)) (hw _ (List.mem_of_getElem? (i := 7) rfl)) (hw _ (List.mem_of_getElem? (i := 3) rfl)) (hw _ (List.mem_of_getElem? (i := 8) rfl)) (by decide) e205 (rmE l Z a0 hw [] b2 v96 v106 (2 : Int32) F89 h89 n0 Z0_89 A89 (by omega)) 0 (by decide) (by decide) (by decide) (by decide) (g := (mkF m 221 #[.val (.int q1), .val (.long q2), .second, .val (.int q3), .val (.int q4), .val (.ref b2), .val (.int v96), .val (.int v106), .val (.int x3)] [(.int (2 : Int32)), (.int v106), (.int v96), (.ref b2)])) rfl (by rw [hml]; rfl) [(.ref b2), (.int v96), (.int v106), (.int (2 : Int32))] [] (lenOf pd0_1 rfl) rfl rfl (by show 2 * 0 + _ ≤ _; exact Nat.le_of_eq rfl) (hb hby at_221) ?_
              intro rv221 T221 h221 L221 X221 e221 hQ221
              obtain ⟨⟨r221, rfl, hr221⟩, NQ221, eq221⟩ := hQ221
              rw [eq221] at e221
              have N221 := Fr.app N205 NQ221
              show own_Ends p e below s room_1.cells room_1.slots (Q0 Z q1 q2 q3 q4 h0 n0) T221 (mkF m 224 #[.val (.int q1), .val (.long q2), .second, .val (.int q3), .val (.int q4), .val (.ref b2), .val (.int v96), .val (.int v106), .val (.int x3)] [(.int r221)])
              have j230 : ∀ (x2 : Int32), own_J (own_G F89) v96.toInt v106.toInt 2 x2.toInt → own_Ends p e below s room_1.cells room_1.slots (Q0 Z q1 q2 q3 q4 h0 n0) T221 (mkF m 230 #[.val (.int q1), .val (.long q2), .second, .val (.int q3), .val (.int q4), .val (.ref b2), .val (.int v96), .val (.int v106), .val (.int x2)] []) := by
                intro x2 hj230
                have rj230 := rng32 x2
                refine own_go (mkF m 232 #[.val (.int q1), .val (.long q2), .second, .val (.int q3), .val (.int q4), .val (.ref b2), .val (.int v96), .val (.int v106), .val (.int x2)] [(.ref b2)]) (fun t k => XS.aload X221.here hx rfl (hb hby at_230) rfl rfl k) ?_
                refine own_go (mkF m 234 #[.val (.int q1), .val (.long q2), .second, .val (.int q3), .val (.int q4), .val (.ref b2), .val (.int v96), .val (.int v106), .val (.int x2)] [(.int v96), (.ref b2)]) (fun t k => XS.iload X221.here hx rfl (hb hby at_232) rfl k) ?_
                refine own_go (mkF m 236 #[.val (.int q1), .val (.long q2), .second, .val (.int q3), .val (.int q4), .val (.ref b2), .val (.int v96), .val (.int v106), .val (.int x2)] [(.int v106), (.int v96), (.ref b2)]) (fun t k => XS.iload X221.here hx rfl (hb hby at_234) rfl k) ?_
                refine own_callS X221 hx hZ (y := (⟨"com/example/lease_lock_service/leaselockservice/http/RequestHead", "end", "([BII)I"⟩ : MethodName)) hown (hw _ (List.mem_of_getElem? (i := 9) rfl)) (hw _ (List.mem_of_getElem? (i := 10) rfl)) (hw _ (List.mem_of_getElem? (i := 11) rfl)) (hw _ (List.mem_of_getElem? (i := 12) rfl)) (by decide) e221 (rmD l Z a0 hw [] b2 v96 v106 F89 h89 n0 Z0_89 A89 (by omega)) 0 (by decide) (by decide) (by decide) (by decide) (g := (mkF m 236 #[.val (.int q1), .val (.long q2), .second, .val (.int q3), .val (.int q4), .val (.ref b2), .val (.int v96), .val (.int v106), .val (.int x2)] [(.int v106), (.int v96), (.ref b2)])) rfl (by rw [hml]; rfl) [(.ref b2), (.int v96), (.int v106)] [] (lenOf pd0_2 rfl) rfl rfl (by show 2 * 0 + _ ≤ _; exact Nat.le_of_eq rfl) (hb hby at_236) ?_
                intro rv236 T236 h236 L236 X236 e236 hQ236
                obtain ⟨⟨r236, rfl, hr236⟩, NQ236, eq236⟩ := hQ236
                rw [eq236] at e236
                have N236 := Fr.app N221 NQ236
                show own_Ends p e below s room_1.cells room_1.slots (Q0 Z q1 q2 q3 q4 h0 n0) T236 (mkF m 239 #[.val (.int q1), .val (.long q2), .second, .val (.int q3), .val (.int q4), .val (.ref b2), .val (.int v96), .val (.int v106), .val (.int x2)] [(.int r236)])
                refine own_go (mkF m 241 #[.val (.int q1), .val (.long q2), .second, .val (.int q3), .val (.int q4), .val (.ref b2), .val (.int v96), .val (.int v106), .val (.int x2)] [(.int x2), (.int r236)]) (fun t k => XS.iload X236.here hx rfl (hb hby at_239) rfl k) ?_
                have c241 : r236.toInt = x2.toInt := own_J_eq (by omega) (by omega) hj230 hr236
                refine own_go (mkF m 244 #[.val (.int q1), .val (.long q2), .second, .val (.int q3), .val (.int q4), .val (.ref b2), .val (.int v96), .val (.int v106), .val (.int x2)] []) (fun t k => XS.icmpNo X236.here hx rfl (hb hby at_241) rfl (own_icF (cd := .ne) (fun q => q c241)) k) ?_
                refine own_go (mkF m 245 #[.val (.int q1), .val (.long q2), .second, .val (.int q3), .val (.int q4), .val (.ref b2), .val (.int v96), .val (.int v106), .val (.int x2)] [(.int (1 : Int32))]) (fun t k => XS.iconst X236.here hx rfl (hb hby at_244) k) ?_
                refine own_go (mkF m 249 #[.val (.int q1), .val (.long q2), .second, .val (.int q3), .val (.int q4), .val (.ref b2), .val (.int v96), .val (.int v106), .val (.int x2)] [(.int (1 : Int32))]) (fun t k => XS.goto X236.here hx rfl (pc0 := 245) (pc' := 249) rfl (hb hby at_245) (by decide) (by decide) k) ?_
                refine own_retI X236 hx hlk hret (by simp) rfl (hb hby at_249) (by decide) (by decide) ?_
                rw [e236]
                exact ⟨rfl, N236⟩
              by_cases c224 : r221.toInt = 0
              · skip
                refine own_go (mkF m 230 #[.val (.int q1), .val (.long q2), .second, .val (.int q3), .val (.int q4), .val (.ref b2), .val (.int v96), .val (.int v106), .val (.int x3)] []) (fun t k => XS.ifYes X221.here hx rfl (pc0 := 224) (pc' := 230) rfl (hb hby at_224) rfl (own_zT (cd := .eq) c224) (by decide) (by decide) k) ?_
                exact j230 x3 (own_J_miss (k := 2) (own_no hr221 c224) hj214)
              · skip
                refine own_go (mkF m 227 #[.val (.int q1), .val (.long q2), .second, .val (.int q3), .val (.int q4), .val (.ref b2), .val (.int v96), .val (.int v106), .val (.int x3)] []) (fun t k => XS.ifNo X221.here hx rfl (hb hby at_224) rfl (own_zF (cd := .eq) c224) k) ?_
                refine own_go (mkF m 228 #[.val (.int q1), .val (.long q2), .second, .val (.int q3), .val (.int q4), .val (.ref b2), .val (.int v96), .val (.int v106), .val (.int x3)] [(.int (2 : Int32))]) (fun t k => XS.iconst X221.here hx rfl (hb hby at_227) k) ?_
                refine own_go (mkF m 230 #[.val (.int q1), .val (.long q2), .second, .val (.int q3), .val (.int q4), .val (.ref b2), .val (.int v96), .val (.int v106), .val (.int (2 : Int32))] []) (fun t k => XS.istore X221.here hx rfl (hb hby at_228) rfl (l' := #[.val (.int q1), .val (.long q2), .second, .val (.int q3), .val (.int q4), .val (.ref b2), .val (.int v96), .val (.int v106), .val (.int (2 : Int32))]) rfl k) ?_
                exact j230 (2 : Int32) (own_J_hit (k := 2) (by decide) (own_yes hr221 c224))
            by_cases c208 : r205.toInt = 0
            · skip
              refine own_go (mkF m 214 #[.val (.int q1), .val (.long q2), .second, .val (.int q3), .val (.int q4), .val (.ref b2), .val (.int v96), .val (.int v106), .val (.int x4)] []) (fun t k => XS.ifYes X205.here hx rfl (pc0 := 208) (pc' := 214) rfl (hb hby at_208) rfl (own_zT (cd := .eq) c208) (by decide) (by decide) k) ?_
              exact j214 x4 (own_J_miss (k := 3) (own_no hr205 c208) hj198)
            · skip
              refine own_go (mkF m 211 #[.val (.int q1), .val (.long q2), .second, .val (.int q3), .val (.int q4), .val (.ref b2), .val (.int v96), .val (.int v106), .val (.int x4)] []) (fun t k => XS.ifNo X205.here hx rfl (hb hby at_208) rfl (own_zF (cd := .eq) c208) k) ?_
              refine own_go (mkF m 212 #[.val (.int q1), .val (.long q2), .second, .val (.int q3), .val (.int q4), .val (.ref b2), .val (.int v96), .val (.int v106), .val (.int x4)] [(.int (3 : Int32))]) (fun t k => XS.iconst X205.here hx rfl (hb hby at_211) k) ?_
              refine own_go (mkF m 214 #[.val (.int q1), .val (.long q2), .second, .val (.int q3), .val (.int q4), .val (.ref b2), .val (.int v96), .val (.int v106), .val (.int (3 : Int32))] []) (fun t k => XS.istore X205.here hx rfl (hb hby at_212) rfl (l' := #[.val (.int q1), .val (.long q2), .second, .val (.int q3), .val (.int q4), .val (.ref b2), .val (.int v96), .val (.int v106), .val (.int (3 : Int32))]) rfl k) ?_
              exact j214 (3 : Int32) (own_J_hit (k := 3) (by decide) (own_yes hr205 c208))
          by_cases c192 : r189.toInt = 0
          · skip
            refine own_go (mkF m 198 #[.val (.int q1), .val (.long q2), .second, .val (.int q3), .val (.int q4), .val (.ref b2), .val (.int v96), .val (.int v106), .val (.int x5)] []) (fun t k => XS.ifYes X189.here hx rfl (pc0 := 192) (pc' := 198) rfl (hb hby at_192) rfl (own_zT (cd := .eq) c192) (by decide) (by decide) k) ?_
            exact j198 x5 (own_J_miss (k := 4) (own_no hr189 c192) hj182)
          · skip
            refine own_go (mkF m 195 #[.val (.int q1), .val (.long q2), .second, .val (.int q3), .val (.int q4), .val (.ref b2), .val (.int v96), .val (.int v106), .val (.int x5)] []) (fun t k => XS.ifNo X189.here hx rfl (hb hby at_192) rfl (own_zF (cd := .eq) c192) k) ?_
            refine own_go (mkF m 196 #[.val (.int q1), .val (.long q2), .second, .val (.int q3), .val (.int q4), .val (.ref b2), .val (.int v96), .val (.int v106), .val (.int x5)] [(.int (4 : Int32))]) (fun t k => XS.iconst X189.here hx rfl (hb hby at_195) k) ?_
            refine own_go (mkF m 198 #[.val (.int q1), .val (.long q2), .second, .val (.int q3), .val (.int q4), .val (.ref b2), .val (.int v96), .val (.int v106), .val (.int (4 : Int32))] []) (fun t k => XS.istore X189.here hx rfl (hb hby at_196) rfl (l' := #[.val (.int q1), .val (.long q2), .second, .val (.int q3), .val (.int q4), .val (.ref b2), .val (.int v96), .val (.int v106), .val (.int (4 : Int32))]) rfl k) ?_
            exact j198 (4 : Int32) (own_J_hit (k := 4) (by decide) (own_yes hr189 c192))
        by_cases c176 : r173.toInt = 0
        · skip
          refine own_go (mkF m 182 #[.val (.int q1), .val (.long q2), .second, .val (.int q3), .val (.int q4), .val (.ref b2), .val (.int v96), .val (.int v106), .val (.int x6)] []) (fun t k => XS.ifYes X173.here hx rfl (pc0 := 176) (pc' := 182) rfl (hb hby at_176) rfl (own_zT (cd := .eq) c176) (by decide) (by decide) k) ?_
          exact j182 x6 (own_J_miss (k := 5) (own_no hr173 c176) hj166)
        · skip
          refine own_go (mkF m 179 #[.val (.int q1), .val (.long q2), .second, .val (.int q3), .val (.int q4), .val (.ref b2), .val (.int v96), .val (.int v106), .val (.int x6)] []) (fun t k => XS.ifNo X173.here hx rfl (hb hby at_176) rfl (own_zF (cd := .eq) c176) k) ?_
          refine own_go (mkF m 180 #[.val (.int q1), .val (.long q2), .second, .val (.int q3), .val (.int q4), .val (.ref b2), .val (.int v96), .val (.int v106), .val (.int x6)] [(.int (5 : Int32))]) (fun t k => XS.iconst X173.here hx rfl (hb hby at_179) k) ?_
          refine own_go (mkF m 182 #[.val (.int q1), .val (.long q2), .second, .val (.int q3), .val (.int q4), .val (.ref b2), .val (.int v96), .val (.int v106), .val (.int (5 : Int32))] []) (fun t k => XS.istore X173.here hx rfl (hb hby at_180) rfl (l' := #[.val (.int q1), .val (.long q2), .second, .val (.int q3), .val (.int q4), .val (.ref b2), .val (.int v96), .val (.int v106), .val (.int (5 : Int32))]) rfl k) ?_
          exact j182 (5 : Int32) (own_J_hit (k := 5) (by decide) (own_yes hr173 c176))
      by_cases c159 : r156.toInt = 0
      · skip
        refine own_go (mkF m 166 #[.val (.int q1), .val (.long q2), .second, .val (.int q3), .val (.int q4), .val (.ref b2), .val (.int v96), .val (.int v106), .val (.int x7)] []) (fun t k => XS.ifYes X156.here hx rfl (pc0 := 159) (pc' := 166) rfl (hb hby at_159) rfl (own_zT (cd := .eq) c159) (by decide) (by decide) k) ?_
        exact j166 x7 (own_J_miss (k := 6) (own_no hr156 c159) hj148)
      · skip
        refine own_go (mkF m 162 #[.val (.int q1), .val (.long q2), .second, .val (.int q3), .val (.int q4), .val (.ref b2), .val (.int v96), .val (.int v106), .val (.int x7)] []) (fun t k => XS.ifNo X156.here hx rfl (hb hby at_159) rfl (own_zF (cd := .eq) c159) k) ?_
        refine own_go (mkF m 164 #[.val (.int q1), .val (.long q2), .second, .val (.int q3), .val (.int q4), .val (.ref b2), .val (.int v96), .val (.int v106), .val (.int x7)] [(.int (6 : Int32))]) (fun t k => XS.bipush X156.here hx rfl (hb hby at_162) k) ?_
        refine own_go (mkF m 166 #[.val (.int q1), .val (.long q2), .second, .val (.int q3), .val (.int q4), .val (.ref b2), .val (.int v96), .val (.int v106), .val (.int (6 : Int32))] []) (fun t k => XS.istore X156.here hx rfl (hb hby at_164) rfl (l' := #[.val (.int q1), .val (.long q2), .second, .val (.int q3), .val (.int q4), .val (.ref b2), .val (.int v96), .val (.int v106), .val (.int (6 : Int32))]) rfl k) ?_
        exact j166 (6 : Int32) (own_J_hit (k := 6) (by decide) (own_yes hr156 c159))
    by_cases c141 : r138.toInt = 0
    · skip
      refine own_go (mkF m 148 #[.val (.int q1), .val (.long q2), .second, .val (.int q3), .val (.int q4), .val (.ref b2), .val (.int v96), .val (.int v106), .val (.int x8)] []) (fun t k => XS.ifYes X138.here hx rfl (pc0 := 141) (pc' := 148) rfl (hb hby at_141) rfl (own_zT (cd := .eq) c141) (by decide) (by decide) k) ?_
      exact j148 x8 (own_J_miss (k := 7) (own_no hr138 c141) hj130)
    · skip
      refine own_go (mkF m 144 #[.val (.int q1), .val (.long q2), .second, .val (.int q3), .val (.int q4), .val (.ref b2), .val (.int v96), .val (.int v106), .val (.int x8)] []) (fun t k => XS.ifNo X138.here hx rfl (hb hby at_141) rfl (own_zF (cd := .eq) c141) k) ?_
      refine own_go (mkF m 146 #[.val (.int q1), .val (.long q2), .second, .val (.int q3), .val (.int q4), .val (.ref b2), .val (.int v96), .val (.int v106), .val (.int x8)] [(.int (7 : Int32))]) (fun t k => XS.bipush X138.here hx rfl (hb hby at_144) k) ?_
      refine own_go (mkF m 148 #[.val (.int q1), .val (.long q2), .second, .val (.int q3), .val (.int q4), .val (.ref b2), .val (.int v96), .val (.int v106), .val (.int (7 : Int32))] []) (fun t k => XS.istore X138.here hx rfl (hb hby at_146) rfl (l' := #[.val (.int q1), .val (.long q2), .second, .val (.int q3), .val (.int q4), .val (.ref b2), .val (.int v96), .val (.int v106), .val (.int (7 : Int32))]) rfl k) ?_
      exact j148 (7 : Int32) (own_J_hit (k := 7) (by decide) (own_yes hr138 c141))
  by_cases c123 : r120.toInt = 0
  · skip
    refine own_go (mkF m 130 #[.val (.int q1), .val (.long q2), .second, .val (.int q3), .val (.int q4), .val (.ref b2), .val (.int v96), .val (.int v106), .val (.int (-1 : Int32))] []) (fun t k => XS.ifYes X120.here hx rfl (pc0 := 123) (pc' := 130) rfl (hb hby at_123) rfl (own_zT (cd := .eq) c123) (by decide) (by decide) k) ?_
    exact j130 (-1 : Int32) (own_J_miss (k := 8) (own_no hr120 c123) own_J_start)
  · skip
    refine own_go (mkF m 126 #[.val (.int q1), .val (.long q2), .second, .val (.int q3), .val (.int q4), .val (.ref b2), .val (.int v96), .val (.int v106), .val (.int (-1 : Int32))] []) (fun t k => XS.ifNo X120.here hx rfl (hb hby at_123) rfl (own_zF (cd := .eq) c123) k) ?_
    refine own_go (mkF m 128 #[.val (.int q1), .val (.long q2), .second, .val (.int q3), .val (.int q4), .val (.ref b2), .val (.int v96), .val (.int v106), .val (.int (-1 : Int32))] [(.int (8 : Int32))]) (fun t k => XS.bipush X120.here hx rfl (hb hby at_126) k) ?_
    refine own_go (mkF m 130 #[.val (.int q1), .val (.long q2), .second, .val (.int q3), .val (.int q4), .val (.ref b2), .val (.int v96), .val (.int v106), .val (.int (8 : Int32))] []) (fun t k => XS.istore X120.here hx rfl (hb hby at_128) rfl (l' := #[.val (.int q1), .val (.long q2), .second, .val (.int q3), .val (.int q4), .val (.ref b2), .val (.int v96), .val (.int v106), .val (.int (8 : Int32))]) rfl k) ?_
    exact j130 (8 : Int32) (own_J_hit (k := 8) (by decide) (own_yes hr120 c123))
set_option maxRecDepth 65536 in
set_option maxHeartbeats 40000000 in
theorem comes_1 {Post : Tables → Env → Array Value → State → Outcome → State → Prop} (hpost : ∀ tb e args s v u, (limb_1_1.after args s (.returned v) u = true ∧ limb_1_2.after args s (.returned v) u = true ∧ True) → FrameEnd s (.returned v) u (Jvm.fieldLocs frame_1_writes args s ++ Jvm.arrayLocs frame_1_arrays args s ++ Jvm.staticLocs frame_1_statics s) 16 128 → Post tb e args s (.returned v) u) :
    ArmFor flags0 classFile x code maxLocals ret World_1 tables_1 room_1 Calls_1 rest_1 Pre_1 Post := by
  intro l hfl _ _ p e ha hc hk s m args below hf hA hF happ hP
  obtain ⟨hcalls, hrest, hpre⟩ := hP
  obtain ⟨-, -, -, hnamed, -, -, -, hat⟩ := (Spec.applies_iff hf).mp happ
  obtain ⟨hg, hn⟩ := and_e (Cond.before_iff.mp (show (Jvm.Cond.and given_1 narrow_1).before args s = true from hpre))
  obtain ⟨q0, u0⟩ := and_e hg
  obtain ⟨k0, u1⟩ := and_e u0
  obtain ⟨k1, u2⟩ := and_e u1
  obtain ⟨k2, u3⟩ := and_e u2
  obtain ⟨w0, w1, w2, w3, rfl⟩ : ∃ w0 w1 w2 w3 : Value, args = #[w0, w1, w2, w3] := by
    have hs : args.size = 4 := by simpa [Cond.value, given_1] using q0
    obtain ⟨L⟩ := args
    match L, hs with
    | [w0, w1, w2, w3], _ => exact ⟨w0, w1, w2, w3, rfl⟩
  have hw := fun d (hd : d ∈ tables_1) => atoms_spec (ws := Jvm.Cond.code x code maxLocals ret :: tables_1) hat d (List.mem_cons_of_mem _ hd)
  obtain ⟨i0, g0⟩ := is_v k0
  obtain rfl : w0 = (.int i0) := Option.some.inj g0
  obtain ⟨i1, g1⟩ := isL_v k1
  obtain rfl : w1 = (.long i1) := Option.some.inj g1
  obtain ⟨i2, g2⟩ := is_v k2
  obtain rfl : w2 = (.int i2) := Option.some.inj g2
  obtain ⟨i3, g3⟩ := is_v u3
  obtain rfl : w3 = (.int i3) := Option.some.inj g3
  obtain ⟨n, o, h1, h2, h3, _, L, rfl, ⟨rfl, N⟩, hq⟩ := rm0 l s _ hw tables_1 i0 i1 i2 i3 s.heap s.heap.size (Nat.le_refl _)  p e ha hc hk s m _ below hf ((Spec.applies_iff_loose hf).mp happ).1 ⟨rfl, State.Warmed39.refl s, rfl⟩ trivial
  refine ⟨n, _, h1, h2, h3, hpost _ _ _ _ _ _ ⟨Cond.after_iff.mpr rfl, Cond.after_iff.mpr (eq_i res_at (Term.int_eval (1)) rfl), trivial⟩ ⟨hq.1, hq.2.1, (hq.2.2.sift fun y hy => Or.inr (N y hy)).mono (by decide) (by decide)⟩⟩
theorem main_1_1 : Claimed_1_1 := comes_1 fun _ _ _ _ _ _ h hF => ⟨h.1, hF⟩
theorem main_1_2 : Claimed_1_2 := comes_1 fun _ _ _ _ _ _ h hF => ⟨h.2.1, hF⟩
end Jvm.Pilot.@@N@@
namespace Jvm.Pilot.@@N@@
open Jvm Jvm.ClassFile Sem Op Lib Jvm.Free Jvm.Stand Jvm.Pilot.@@N@@.Jvm.D
/-! MADE BY PROGRAM (witnessworld.py) out of the Statement's table words and the real class files: 9 classes; the members and pool entries that the words name. The judged class is class 1, her method 1. -/
namespace start1
open Jvm.ClassFile
def u (s : String) : CpInfo := .utf8 (stringToUtf16 s)
/-- a pool by its gaps: so many unusable entries, then the entry; so many at the end -/
def gap : Nat → List CpInfo → List CpInfo
  | 0, r => r
  | n + 1, r => .unusable :: gap n r
def poolList (es : List (Nat × CpInfo)) (last : Nat) : List CpInfo := es.foldr (fun e r => gap e.1 (e.2 :: r)) (gap last [])
def pool (es : List (Nat × CpInfo)) (last : Nat) : Array CpInfo := ⟨poolList es last⟩
def fileOf (pool : Array CpInfo) (this : Nat) (attrs : Array Attribute := #[]) (ms : Array MethodInfo := #[]) (fl : Nat := 33) (sup : Nat := 0) (ifs : Array Nat := #[]) (fds : Array FieldInfo := #[]) : ClassFile where
  minorVersion := 0
  majorVersion := 65
  constantPool := pool
  accessFlags := fl
  thisClass := this
  superClass := sup
  interfaces := ifs
  fields := fds
  methods := ms
  attributes := attrs
def plain (name : String) (sup : Option ClassId) : Class where
  name := name
  kind := .ordinary
  loader := none
  accessFlags := 33
  super := sup
  interfaces := #[]
  cf := none
  fields := #[]
  methods := #[]
  instanceTypes := #[]
  staticTypes := #[]
  resolved := #[]
  callSites := []
  init := .initialized
  statics := none
  mirror := none

def pool0 : Array CpInfo := pool [(5, u "<init>"), (0, u "()V"), (1, .class_ 10), (1, u "java/lang/Object")] 113

def k0m0 : Method := { name := "<init>", desc := "()V", sig := { parameters := [], returnType := none }, accessFlags := 1, code := none }
/-- java/lang/Object -/
def k0 : Class := { plain "java/lang/Object" none with
  accessFlags := 33
  interfaces := #[]
  cf := some (fileOf pool0 8 #[] #[{ accessFlags := 1, nameIndex := 5, descriptorIndex := 6, attributes := #[] }] 33 0 #[] #[])
  fields := #[]
  methods := #[k0m0]
  instanceTypes := #[]
  staticTypes := #[]
  resolved := Array.replicate 124 none
  statics := none }

def pool1 : Array CpInfo := pool [(2, .class_ 4), (1, u "java/lang/Object"), (0, u "<init>"), (0, u "()V"), (0, .methodref 8 9), (0, .class_ 10), (0, .nameAndType 11 12), (0, u "com/example/lease_lock_service/leaselockservice/http/RequestHeadEndPinLaw"), (0, u "pick"), (0, u "(IJI)B"), (0, .integer 2147483647), (0, .methodref 8 15), (0, .nameAndType 16 17), (0, u "endsAt"), (0, u "([BIII)Z"), (0, .methodref 19 20), (0, .class_ 21), (0, .nameAndType 22 23), (0, u "com/example/lease_lock_service/leaselockservice/http/RequestHead"), (0, u "end"), (0, u "([BII)I"), (2, u "law"), (0, u "(IJII)Z")] 5

def k1m0 : Method := { name := "<init>", desc := "()V", sig := { parameters := [], returnType := none }, accessFlags := 1, code := none }
def k1c1 : Code := { maxStack := 6, maxLocals := 9, code := code, exceptionTable := #[], attributes := #[] }
def k1m1 : Method := { name := "law", desc := "(IJII)Z", sig := { parameters := [.int, .long, .int, .int], returnType := some .boolean }, accessFlags := 9, code := some k1c1 }
def k1c2 : Code := { maxStack := 4, maxLocals := 5, code := method_3_code, exceptionTable := #[], attributes := #[] }
def k1m2 : Method := { name := "pick", desc := "(IJI)B", sig := { parameters := [.int, .long, .int], returnType := some .byte }, accessFlags := 10, code := some k1c2 }
def k1c3 : Code := { maxStack := 3, maxLocals := 4, code := method_4_code, exceptionTable := #[], attributes := #[] }
def k1m3 : Method := { name := "endsAt", desc := "([BIII)Z", sig := { parameters := [(.array .byte), .int, .int, .int], returnType := some .boolean }, accessFlags := 10, code := some k1c3 }
/-- com/example/lease_lock_service/leaselockservice/http/RequestHeadEndPinLaw -/
def k1 : Class := { plain "com/example/lease_lock_service/leaselockservice/http/RequestHeadEndPinLaw" (some 0) with
  accessFlags := 49
  interfaces := #[]
  cf := some (fileOf pool1 8 #[] #[{ accessFlags := 1, nameIndex := 5, descriptorIndex := 6, attributes := #[] }, { accessFlags := 9, nameIndex := 26, descriptorIndex := 27, attributes := #[] }, { accessFlags := 10, nameIndex := 11, descriptorIndex := 12, attributes := #[] }, { accessFlags := 10, nameIndex := 16, descriptorIndex := 17, attributes := #[] }] 49 2 #[] #[])
  fields := #[]
  methods := #[k1m0, k1m1, k1m2, k1m3]
  instanceTypes := #[]
  staticTypes := #[]
  resolved := Array.replicate 33 none
  statics := none }

def pool2 : Array CpInfo := pool [(2, .class_ 4), (1, u "java/lang/Object"), (3, .class_ 10), (1, u "com/example/lease_lock_service/leaselockservice/http/RequestHead"), (0, u "method"), (0, u "Ljava/lang/String;"), (2, u "target"), (2, u "path"), (2, u "http10"), (0, u "Z"), (2, u "headers"), (0, u "Ljava/util/List;"), (2, u "HEAD_REQUEST_LINE"), (0, u "[B"), (40, .class_ 72), (0, u "com/example/lease_lock_service/leaselockservice/http/RequestHead$BadRequest"), (176, u "MAX_BYTES"), (0, u "I"), (2, u "HEAD"), (1, u "MAX_LENGTH_DIGITS"), (6, u "end"), (0, u "([BII)I")] 51

def k2c0 : Code := { maxStack := 3, maxLocals := 4, code := prog_29_method_2_code, exceptionTable := #[], attributes := #[] }
def k2m0 : Method := { name := "end", desc := "([BII)I", sig := { parameters := [(.array .byte), .int, .int], returnType := some .int }, accessFlags := 8, code := some k2c0 }
/-- com/example/lease_lock_service/leaselockservice/http/RequestHead -/
def k2 : Class := { plain "com/example/lease_lock_service/leaselockservice/http/RequestHead" (some 0) with
  accessFlags := 48
  interfaces := #[]
  cf := some (fileOf pool2 8 #[.nestMembers #[71]] #[{ accessFlags := 8, nameIndex := 262, descriptorIndex := 263, attributes := #[] }] 48 2 #[] #[{ accessFlags := 24, nameIndex := 249, descriptorIndex := 250, attributes := #[] }, { accessFlags := 24, nameIndex := 253, descriptorIndex := 12, attributes := #[] }, { accessFlags := 26, nameIndex := 29, descriptorIndex := 30, attributes := #[] }, { accessFlags := 26, nameIndex := 255, descriptorIndex := 250, attributes := #[] }, { accessFlags := 18, nameIndex := 11, descriptorIndex := 12, attributes := #[] }, { accessFlags := 18, nameIndex := 15, descriptorIndex := 12, attributes := #[] }, { accessFlags := 18, nameIndex := 18, descriptorIndex := 12, attributes := #[] }, { accessFlags := 18, nameIndex := 21, descriptorIndex := 22, attributes := #[] }, { accessFlags := 18, nameIndex := 25, descriptorIndex := 26, attributes := #[] }])
  fields := #[{ name := "MAX_BYTES", type := .int, accessFlags := 24, slot := 0, constantValue := 0 }, { name := "HEAD", type := (.object "java/lang/String"), accessFlags := 24, slot := 1, constantValue := 0 }, { name := "HEAD_REQUEST_LINE", type := (.array .byte), accessFlags := 26, slot := 2, constantValue := 0 }, { name := "MAX_LENGTH_DIGITS", type := .int, accessFlags := 26, slot := 3, constantValue := 0 }, { name := "method", type := (.object "java/lang/String"), accessFlags := 18, slot := 0, constantValue := 0 }, { name := "target", type := (.object "java/lang/String"), accessFlags := 18, slot := 1, constantValue := 0 }, { name := "path", type := (.object "java/lang/String"), accessFlags := 18, slot := 2, constantValue := 0 }, { name := "http10", type := .boolean, accessFlags := 18, slot := 3, constantValue := 0 }, { name := "headers", type := (.object "java/util/List"), accessFlags := 18, slot := 4, constantValue := 0 }]
  methods := #[k2m0]
  instanceTypes := #[(.object "java/lang/String"), (.object "java/lang/String"), (.object "java/lang/String"), .boolean, (.object "java/util/List")]
  staticTypes := #[.int, (.object "java/lang/String"), (.array .byte), .int]
  resolved := Array.replicate 315 none
  statics := none }

def pool3 : Array CpInfo := pool [(1, u "java/lang/Cloneable"), (0, .class_ 1), (0, u "java/lang/Object"), (0, .class_ 3)] 3

/-- java/lang/Cloneable -/
def k3 : Class := { plain "java/lang/Cloneable" (some 0) with
  accessFlags := 1537
  interfaces := #[]
  cf := some (fileOf pool3 2 #[] #[] 1537 4 #[] #[])
  fields := #[]
  methods := #[]
  instanceTypes := #[]
  staticTypes := #[]
  resolved := Array.replicate 8 none
  statics := none }

def pool4 : Array CpInfo := pool [(1, u "java/io/Serializable"), (0, .class_ 1), (0, u "java/lang/Object"), (0, .class_ 3)] 3

/-- java/io/Serializable -/
def k4 : Class := { plain "java/io/Serializable" (some 0) with
  accessFlags := 1537
  interfaces := #[]
  cf := some (fileOf pool4 2 #[] #[] 1537 4 #[] #[])
  fields := #[]
  methods := #[]
  instanceTypes := #[]
  staticTypes := #[]
  resolved := Array.replicate 8 none
  statics := none }

/-- the primitive byte -/
def k5 : Class := { plain "byte" none with kind := .primitive 'B', accessFlags := 0x411 }
/-- [B -/
def k6 : Class := { plain "[B" (some 0) with kind := .array 5 .byte, interfaces := #[3, 4], accessFlags := 1041 }

/-- the primitive int -/
def k7 : Class := { plain "int" none with kind := .primitive 'I', accessFlags := 0x411 }
/-- [I -/
def k8 : Class := { plain "[I" (some 0) with kind := .array 7 .int, interfaces := #[3, 4], accessFlags := 1041 }

def heap : Heap := #[]
def classes : Array Class := #[k0, k1, k2, k3, k4, k5, k6, k7, k8]
def interned : List (Array UInt16 × Addr) := []
def slotsUsed : Nat := 0
def theMethod : MethodId := ⟨1, 1⟩
def args0 : Array Value := #[.int 5, .long 7, .int 2, .int 4]
def aboutOver (below : List Frame) : State where
  vm := { classes := classes, interned := interned.toArray }
  heap := heap
  slotsUsed := slotsUsed
  threads := #[{ frames := .invoking theMethod args0 :: below }]
def below0 : List Frame := [.native { method := ⟨0, 0⟩, args := #[] }]
def about1 : State := aboutOver below0
def p0 : Program := .bare "" "" ""
def e0 : Env := launch0.env 0 0 0
theorem w_frames : about1.frames = Frame.invoking theMethod args0 :: below0 := rfl
set_option maxRecDepth 65536 in
theorem w_args : argsFit about1.vm theMethod args0 = true := by decide +kernel
set_option maxRecDepth 65536 in
theorem w_heap : heapFits about1 = true := by decide +kernel
set_option maxRecDepth 65536 in
theorem w_runnable : about1.curStatus? = some .runnable := by decide +kernel
set_option maxRecDepth 65536 in
theorem w_alone : about1.alone = true := by decide +kernel
set_option maxRecDepth 65536 in
theorem w_named : about1.methodNamed? x = some theMethod := by decide +kernel
set_option maxRecDepth 65536 in
theorem w_hears : about1.hears theMethod below0 = true := by decide +kernel
set_option maxRecDepth 65536 in
theorem w_ripe : about1.ripe theMethod args0 below0 = true := by decide +kernel
theorem w_running : about1.status = .running := rfl
set_option maxRecDepth 65536 in
theorem w_room : about1.hasRoom e0.platform room_1 = true :=
  launch0.hasRoom_least _ room_1 (by decide +kernel) (by decide +kernel) (by decide +kernel) (by decide +kernel) (by decide +kernel) (by decide +kernel)
theorem allAtoms_all (ts : List Jvm.Cond) (a : Array Jvm.Value) (st : Jvm.State) : (allAtoms ts).before a st = ts.all (fun c => c.before a st) := by
  induction ts with
  | nil => rfl
  | cons c t ih =>
    show (Jvm.Cond.and c (allAtoms t)).before a st = _
    rw [Jvm.Cond.before_and, ih, List.all_cons]
def words1 : List Jvm.Cond := Jvm.Cond.code x code maxLocals ret :: tables_1
/-- a 'code' word, met by the world's own term for the bytes: nothing is compared byte by byte -/
theorem code_word {y : MethodName} {bytes : ByteArray} {mx : Nat} {rt : Option FieldType} {a : Array Value} {s : State} {m : MethodId} {meth : Method} {c : Code} (h1 : s.methodNamed? y = some m) (h2 : s.vm.method? m = some meth) (h3 : meth.code = some c) (h4 : c.code = bytes)
    (h5 : (c.maxLocals == mx && c.exceptionTable.isEmpty && decide (c.maxStack ≤ mostOperands) && decide (meth.sig.returnType = rt) && !meth.locks && decide (parseMethodDescriptor y.desc = some meth.sig)) = true) : (Jvm.Cond.code y bytes mx rt).before a s = true := by
  simp only [Bool.and_eq_true, beq_iff_eq, Bool.not_eq_true', decide_eq_true_eq] at h5
  obtain ⟨⟨⟨⟨⟨g1, g2⟩, g3⟩, g4⟩, g5⟩, g6⟩ := h5
  simp [Cond.before, Cond.holds, Cond.value, h1, h2, h3, h4, g1, g2, g3, g4, g5, g6]
def isCode : Jvm.Cond → Bool
  | .code _ _ _ _ => true
  | _ => false
theorem all_split {L : List Jvm.Cond} {P : Jvm.Cond → Bool} (h1 : L.all (fun c => isCode c || P c) = true) (h2 : ∀ c ∈ L.filter isCode, P c = true) : L.all P = true := by
  refine List.all_eq_true.mpr fun c hc => ?_
  have h := List.all_eq_true.mp h1 c hc
  rcases Bool.eq_false_or_eq_true (isCode c) with hi | hi
  · exact h2 c (List.mem_filter.mpr ⟨hc, hi⟩)
  · simpa [hi] using h
set_option maxRecDepth 65536 in
theorem w_c0 : (Jvm.Cond.code x code maxLocals ret).before args0 about1 = true := code_word (m := ⟨1, 1⟩) (meth := k1m1) (c := k1c1) (by decide +kernel) rfl rfl rfl (by decide +kernel)
set_option maxRecDepth 65536 in
theorem w_c1 : (Jvm.Cond.code ({ cls := "com/example/lease_lock_service/leaselockservice/http/RequestHeadEndPinLaw", name := "pick", desc := "(IJI)B" } : Jvm.MethodName) method_3_code (5 : Nat) (Option.some Jvm.ClassFile.FieldType.byte)).before args0 about1 = true := code_word (m := ⟨1, 2⟩) (meth := k1m2) (c := k1c2) (by decide +kernel) rfl rfl rfl (by decide +kernel)
set_option maxRecDepth 65536 in
theorem w_c2 : (Jvm.Cond.code ({ cls := "com/example/lease_lock_service/leaselockservice/http/RequestHeadEndPinLaw", name := "endsAt", desc := "([BIII)Z" } : Jvm.MethodName) method_4_code (4 : Nat) (Option.some Jvm.ClassFile.FieldType.boolean)).before args0 about1 = true := code_word (m := ⟨1, 3⟩) (meth := k1m3) (c := k1c3) (by decide +kernel) rfl rfl rfl (by decide +kernel)
set_option maxRecDepth 65536 in
theorem w_c3 : (Jvm.Cond.code ({ cls := "com/example/lease_lock_service/leaselockservice/http/RequestHead", name := "end", desc := "([BII)I" } : Jvm.MethodName) prog_29_method_2_code (4 : Nat) (Option.some Jvm.ClassFile.FieldType.int)).before args0 about1 = true := code_word (m := ⟨2, 0⟩) (meth := k2m0) (c := k2c0) (by decide +kernel) rfl rfl rfl (by decide +kernel)
def codes1 : List Jvm.Cond := [Jvm.Cond.code x code maxLocals ret, Jvm.Cond.code ({ cls := "com/example/lease_lock_service/leaselockservice/http/RequestHeadEndPinLaw", name := "pick", desc := "(IJI)B" } : Jvm.MethodName) method_3_code (5 : Nat) (Option.some Jvm.ClassFile.FieldType.byte), Jvm.Cond.code ({ cls := "com/example/lease_lock_service/leaselockservice/http/RequestHeadEndPinLaw", name := "endsAt", desc := "([BIII)Z" } : Jvm.MethodName) method_4_code (4 : Nat) (Option.some Jvm.ClassFile.FieldType.boolean), Jvm.Cond.code ({ cls := "com/example/lease_lock_service/leaselockservice/http/RequestHead", name := "end", desc := "([BII)I" } : Jvm.MethodName) prog_29_method_2_code (4 : Nat) (Option.some Jvm.ClassFile.FieldType.int)]
set_option maxRecDepth 65536 in
theorem codes_eq : words1.filter isCode = codes1 := rfl
theorem w_codes : ∀ c ∈ words1.filter isCode, c.before args0 about1 = true := by
  rw [codes_eq]
  intro c hc
  simp only [codes1, List.mem_cons, List.not_mem_nil, or_false] at hc
  rcases hc with rfl | rfl | rfl | rfl
  · exact w_c0
  · exact w_c1
  · exact w_c2
  · exact w_c3
set_option maxRecDepth 65536 in
theorem w_t1 : words1.all (fun c => isCode c || c.before args0 about1) = true := by decide +kernel
theorem w_tables : (allAtoms (Jvm.Cond.code x code maxLocals ret :: tables_1)).before args0 about1 = true := by
  rw [allAtoms_all]
  show words1.all (fun c => c.before args0 about1) = true
  refine all_split ?_ w_codes
  rw [w_t1]
set_option maxRecDepth 65536 in
theorem w_case : (Jvm.Cond.and given_1 narrow_1).before args0 about1 = true := by decide +kernel
theorem w_applies : (headSpec (Jvm.Cond.code x code maxLocals ret :: tables_1) room_1).applies x e0.platform about1 = true :=
  (Spec.applies_iff w_frames).mpr ⟨w_running, w_runnable, w_alone, w_named, w_hears, w_ripe, w_room, w_tables⟩
theorem atStart : AtStart classFile x code maxLocals ret World_1 tables_1 room_1 Calls_1 rest_1 Pre_1 launch0 p0 e0 about1 theMethod args0 below0 :=
  ⟨lists_1, trivial, launch0.admits_env _ _ _, launch0.least_env, fairChoices_fair.cas, fairChoices_fair.clock, w_frames, w_args, w_heap, w_applies, trivial, trivial, w_case⟩
end start1
theorem witness_1 : WitnessClaimed_1 := ⟨start1.p0, start1.e0, start1.about1, start1.theMethod, start1.args0, start1.below0, start1.atStart⟩
end Jvm.Pilot.@@N@@
