import JvmDerived
import JvmDerived.Pilot.@@N@@Statement
import JvmDerived.Pilot.@@N@@Code
set_option linter.unusedVariables false
set_option linter.unusedSimpArgs false
namespace Jvm.Pilot.@@N@@
open Jvm Jvm.ClassFile Sem Op Lib Jvm.Free Jvm.Stand Jvm.LawKit Jvm.RoadKit Bundle Jvm.Pilot.@@N@@.Jvm.D
section Own
variable {p : Program} {l : Launch} {e : Env} {R : Room} {s : State} {m : MethodId} {args : Array Value} {below : List Frame} {meth : Method} {c : Code} {T T' : State} {locs : List Loc} {cells slots C S : Nat} {Qv : Option Value → Heap → List Loc → Prop} {Z : State} {a0 : Array Value} {h : Heap}
/-- from here, with this frame on top, the method returns, Qv holds of what it returns, of the heap and of what was written, within C cells and S slots -/
def own_Ends (p : Program) (e : Env) (below : List Frame) (s : State) (C S : Nat) (Qv : Option Value → Heap → List Loc → Prop) (T : State) (g : JFrame) : Prop :=
  ∃ (s₂ : State) (o : Outcome), Steps p.tables e below (T.setTop g) s₂ ∧ s₂.status = .running ∧ Ended s₂ below o ∧ ∃ v L, o = .returned v ∧ Qv v s₂.heap L ∧ FrameEnd s o s₂ L C S
theorem own_go {g : JFrame} (g' : JFrame) (st : ∀ t, Steps p.tables e below (T'.setTop g') t → Steps p.tables e below (T.setTop g) t) (k : own_Ends p e below s C S Qv T' g') : own_Ends p e below s C S Qv T g := by
  obtain ⟨s₂, o, h1, h⟩ := k
  exact ⟨s₂, o, st _ h1, h⟩
theorem own_ret (X : Stand p l e R s m args below meth c T locs cells slots) (hlk : meth.locks = false) {g : JFrame} {v : Option Value} (hv : meth.sig.returnType = none → v = none)
    (st : ∀ fs, (∀ (f : JFrame) (acts : List Action), f.method = m → f.locked = none → f.entered = [] → (doReturn e (T.setTop f) acts v).1 = T.setFrames fs) → Steps p.tables e below (T.setTop g) (T.setFrames fs))
    (hC : cells ≤ C) (hS : slots ≤ S) (hQ : Qv v T.heap locs) : own_Ends p e below s C S Qv T g := by
  obtain ⟨fs, hr, hrun, hended, hW, hsame⟩ := X.leave (v := v) hv hlk
  exact ⟨_, _, st fs hr, hrun, hended, v, locs, rfl, hQ, ⟨_, rfl⟩, hW, hsame.mono hC hS⟩
theorem own_retI (X : Stand p l e R s m args below meth c T locs cells slots) (hx : p.tables.exec = Jvm.exec) (hlk : meth.locks = false) {pc : Nat} {Ls : Array Slot} {z : Int32} {rest : List Value} {t : FieldType} (hret : meth.sig.returnType = some t)
    (ht : t = .int ∨ t = .boolean ∨ t = .byte ∨ t = .char ∨ t = .short) (hn : narrow t (.int z) = .int z) (hd : decode c.code pc = .ok (.ireturn, 1)) (hC : cells ≤ C) (hS : slots ≤ S) (hQ : Qv (some (.int z)) T.heap locs) : own_Ends p e below s C S Qv T (mkF m pc Ls (.int z :: rest)) :=
  own_ret X hlk (fun h => by rw [hret] at h; cases h) (fun fs hr => retOut X hx hret hn (Or.inl ⟨rfl, ht, _, rfl⟩) hd hr) hC hS hQ
theorem own_retN (X : Stand p l e R s m args below meth c T locs cells slots) (hx : p.tables.exec = Jvm.exec) (hlk : meth.locks = false) {pc : Nat} {Ls : Array Slot} {z : Int32} {rest : List Value} {t : FieldType} (hret : meth.sig.returnType = some t)
    (ht : t = .boolean ∨ t = .byte ∨ t = .char ∨ t = .short) (hd : decode c.code pc = .ok (.ireturn, 1)) (hC : cells ≤ C) (hS : slots ≤ S) (hQ : Qv (some (.int (nar t z))) T.heap locs) : own_Ends p e below s C S Qv T (mkF m pc Ls (.int z :: rest)) :=
  own_ret X hlk (fun h => by rw [hret] at h; cases h) (fun fs hr => retN X hx hret ht hd hr) hC hS hQ
theorem own_retL (X : Stand p l e R s m args below meth c T locs cells slots) (hx : p.tables.exec = Jvm.exec) (hlk : meth.locks = false) {pc : Nat} {Ls : Array Slot} {z : Int64} {rest : List Value} (hret : meth.sig.returnType = some .long)
    (hd : decode c.code pc = .ok (.lreturn, 1)) (hC : cells ≤ C) (hS : slots ≤ S) (hQ : Qv (some (.long z)) T.heap locs) : own_Ends p e below s C S Qv T (mkF m pc Ls (.long z :: rest)) :=
  own_ret X hlk (fun h => by rw [hret] at h; cases h) (fun fs hr => retOut X hx hret rfl (Or.inr (Or.inl ⟨rfl, rfl, _, rfl⟩)) hd hr) hC hS hQ
theorem own_retA (X : Stand p l e R s m args below meth c T locs cells slots) (hx : p.tables.exec = Jvm.exec) (hlk : meth.locks = false) {pc : Nat} {Ls : Array Slot} {z : Addr} {rest : List Value} {t : FieldType} (hret : meth.sig.returnType = some t) (ht : t.isReference = true) (hn : narrow t (.ref z) = .ref z)
    (hd : decode c.code pc = .ok (.areturn, 1)) (hC : cells ≤ C) (hS : slots ≤ S) (hQ : Qv (some (.ref z)) T.heap locs) : own_Ends p e below s C S Qv T (mkF m pc Ls (.ref z :: rest)) :=
  own_ret X hlk (fun h => by rw [hret] at h; cases h) (fun fs hr => retOut X hx hret hn (Or.inr (Or.inr (Or.inr (Or.inr ⟨rfl, ht, rfl⟩)))) hd hr) hC hS hQ
theorem own_ret0 (X : Stand p l e R s m args below meth c T locs cells slots) (hx : p.tables.exec = Jvm.exec) (hlk : meth.locks = false) {pc : Nat} {Ls : Array Slot} (hret : meth.sig.returnType = none)
    (hd : decode c.code pc = .ok (.return_, 1)) (hC : cells ≤ C) (hS : slots ≤ S) (hQ : Qv none T.heap locs) : own_Ends p e below s C S Qv T (mkF m pc Ls []) :=
  own_ret X hlk (fun _ => rfl) (fun fs hr => X.returnOut hx hret hd hr) hC hS hQ
/-- a contract out of its body's walk -/
theorem own_met {y : MethodName} {bytes : ByteArray} {maxL : Nat} {ret : Option FieldType} {ws : List Jvm.Cond} {rm : Room} {as' : Array Value} {h0 : Heap} (hp : plainFor y = true)
    (body : ∀ (p : Program) (e : Env) (s : State) (m : MethodId) (below : List Frame) (meth : Method) (c : Code) (T : State), p.tables.exec = Jvm.exec → c.code = bytes → c.maxLocals = maxL → s.vm.findClass y.cls = some m.cls → meth.sig.returnType = ret → meth.locks = false → meth.name = y.name → Z.Warmed39 s.vm → Stand p l e rm s m as' below meth c T [] 0 0 → T.heap = h0 → own_Ends p e below s rm.cells rm.slots Qv T (entryFrame m as' maxL)) :
    MetFree l y (head1 (Jvm.Cond.code y bytes maxL ret :: ws) rm) (fun a U => a = as' ∧ Z.Warmed39 U.vm ∧ U.heap = h0) (fun _ _ _ _ _ => True) (fun _ U o U' => ∃ v L, o = .returned v ∧ Qv v U'.heap L ∧ FrameEnd U o U' L rm.cells rm.slots) := by
  refine MetFree.of_bodySF hp hisR ?_
  intro p e s m args below meth c s₁ Bd hml0 hP hK
  obtain ⟨rfl, hZ, hh⟩ := hP
  exact body p e s m below meth c s₁ Bd.exec Bd.bytes hml0 (findClass_of_methodNamed Bd.named) Bd.returns Bd.notSynchronized ((name_of_methodNamed Bd.named Bd.method).1) hZ (Stand.of_body Bd) (by rw [← hh, Bd.state]; rfl)
/-- what a callee's contract says (as' its arguments, h the heap where it is called) -/
abbrev own_Met (l : Launch) (Z : State) (y : MethodName) (bytes : ByteArray) (maxL : Nat) (ret : Option FieldType) (rm : Room) (as' : Array Value) (h : Heap) (Q : Option Value → Heap → List Loc → Prop) : Prop :=
  MetFree l y (head1 [Jvm.Cond.code y bytes maxL ret] rm) (fun a U => a = as' ∧ Z.Warmed39 U.vm ∧ U.heap = h) (fun _ _ _ _ _ => True) (fun _ U o U' => ∃ v L, o = .returned v ∧ Q v U'.heap L ∧ FrameEnd U o U' L rm.cells rm.slots)
theorem own_callS (X : Stand p l e R s m args below meth c T locs cells slots) (hx : p.tables.exec = Jvm.exec) (hZ : Z.Warmed39 s.vm) {own : String} {index : Nat} {y : MethodName} {bytes : ByteArray} {maxL : Nat} {ret : Option FieldType} {rm : Room} {as' : Array Value} {Q : Option Value → Heap → List Loc → Prop}
    (hown : s.vm.findClass own = some m.cls) (w1 : (Jvm.Cond.methodLink own index y).before a0 Z = true) (w2 : (Jvm.Cond.static y).before a0 Z = true) (w3 : (Jvm.Cond.initialized y.cls).before a0 Z = true) (w4 : (Jvm.Cond.code y bytes maxL ret).before a0 Z = true)
    (hy : y.cls ≠ "java/lang/invoke/MethodHandle" ∧ y.cls ≠ "java/lang/invoke/VarHandle") (eT : T.heap = h) (hM : own_Met l Z y bytes maxL ret rm as' h Q)
    (W : Nat) (hf : rm.frames + 1 ≤ R.frames) (hl : W + (maxL + 11) + rm.locals ≤ R.locals) (hC : cells + rm.cells ≤ R.cells) (hS : slots + rm.slots ≤ R.slots)
    {g : JFrame} (hg : g.method = m) (hsize : g.locals.size = c.maxLocals) (argsL rest : List Value) (hlen : ∀ sig, parseMethodDescriptor y.desc = some sig → argsL.length = sig.parameters.length)
    (hstack : g.stack = argsL.reverse ++ rest) (has : argsL.toArray = as') (hW : 2 * g.monitorRoom + (rest.map fun v => v.category).sum ≤ W) (hd : decode c.code g.pc = .ok (.invokestatic index, 3))
    (k : ∀ v T' h' L, Stand p l e R s m args below meth c T' (locs ++ L) (cells + rm.cells) (slots + rm.slots) → T'.heap = h' → Q v h' L → own_Ends p e below s C S Qv T' { g with pc := g.pc + 3, stack := v.toList ++ rest }) : own_Ends p e below s C S Qv T g := by
  obtain ⟨v, _, ⟨T', L', k', n'⟩, -, X', ⟨Lc, hQ, l1, y1, z1⟩, st⟩ := Jvm.LawKit.callS X hx (y := y) hown (mvT hZ w1) (mvT hZ w2) (mvT hZ w3) (mvT hZ w4) hy (backOf (W := W) hM hZ w4 w3 hf hl) (g := g) hg hsize (argsL := argsL) (rest := rest) hlen hstack hW hd (fun _ _ => ⟨has, eT, hC, hS⟩)
  dsimp only [Pt.U, Pt.locs, Pt.cells, Pt.slots] at X' l1 y1 z1 st hQ
  subst l1 y1 z1
  exact own_go _ st (k v T' _ Lc X' rfl hQ)
theorem own_callI (X : Stand p l e R s m args below meth c T locs cells slots) (hx : p.tables.exec = Jvm.exec) (hZ : Z.Warmed39 s.vm) {own : String} {index : Nat} {y : MethodName} {bytes : ByteArray} {maxL : Nat} {rm : Room} {as' : Array Value} {Q : Option Value → Heap → List Loc → Prop}
    (hown : s.vm.findClass own = some m.cls) (hy1 : y.name = "<init>") (w1 : (Jvm.Cond.methodLink own index y).before a0 Z = true) (w2 : (Jvm.Cond.instanceMethod y).before a0 Z = true) (w3 : (Jvm.Cond.initialized y.cls).before a0 Z = true) (w4 : (Jvm.Cond.code y bytes maxL none).before a0 Z = true)
    (hy : y.cls ≠ "java/lang/invoke/MethodHandle" ∧ y.cls ≠ "java/lang/invoke/VarHandle") (eT : T.heap = h) (hM : own_Met l Z y bytes maxL none rm as' h Q)
    (W : Nat) (hf : rm.frames + 1 ≤ R.frames) (hl : W + (maxL + 11) + rm.locals ≤ R.locals) (hC : cells + rm.cells ≤ R.cells) (hS : slots + rm.slots ≤ R.slots)
    {g : JFrame} (hg : g.method = m) (hsize : g.locals.size = c.maxLocals) (a : Addr) (argsL rest : List Value) (hlen : ∀ sig, parseMethodDescriptor y.desc = some sig → argsL.length = sig.parameters.length)
    (hstack : g.stack = argsL.reverse ++ .ref a :: rest) (has : (Value.ref a :: argsL).toArray = as') (hW : 2 * g.monitorRoom + (rest.map fun v => v.category).sum ≤ W) (hd : decode c.code g.pc = .ok (.invokespecial index, 3))
    (k : ∀ v T' h' L, Stand p l e R s m args below meth c T' (locs ++ L) (cells + rm.cells) (slots + rm.slots) → T'.heap = h' → Q v h' L → own_Ends p e below s C S Qv T' { g with pc := g.pc + 3, stack := v.toList ++ rest }) : own_Ends p e below s C S Qv T g := by
  obtain ⟨v, _, ⟨T', L', k', n'⟩, -, X', ⟨Lc, hQ, l1, y1, z1⟩, st⟩ := Jvm.LawKit.callI X hx (y := y) hown hy1 (mvT hZ w1) (mvT hZ w2) (mvT hZ w4) hy (backOf (W := W) hM hZ w4 w3 hf hl) (g := g) hg hsize (a := a) (argsL := argsL) (rest := rest) hlen hstack hW hd (fun _ _ => ⟨has, eT, hC, hS⟩)
  dsimp only [Pt.U, Pt.locs, Pt.cells, Pt.slots] at X' l1 y1 z1 st hQ
  subst l1 y1 z1
  exact own_go _ st (k v T' _ Lc X' rfl hQ)
theorem own_callV (X : Stand p l e R s m args below meth c T locs cells slots) (hx : p.tables.exec = Jvm.exec) (hZ : Z.Warmed39 s.vm) {own C0 : String} {index : Nat} {y : MethodName} {bytes : ByteArray} {maxL : Nat} {ret : Option FieldType} {rm : Room} {as' : Array Value} {Q : Option Value → Heap → List Loc → Prop}
    (hown : s.vm.findClass own = some m.cls) (w1 : (Jvm.Cond.methodLink own index y).before a0 Z = true) (w5 : (Jvm.Cond.declares y).before a0 Z = true) (w6 : (Jvm.Cond.selects C0 y y).before a0 Z = true) (w2 : (Jvm.Cond.instanceMethod y).before a0 Z = true) (w3 : (Jvm.Cond.initialized y.cls).before a0 Z = true) (w4 : (Jvm.Cond.code y bytes maxL ret).before a0 Z = true)
    (hy : y.cls ≠ "java/lang/invoke/MethodHandle" ∧ y.cls ≠ "java/lang/invoke/VarHandle") (eT : T.heap = h) (a : Addr) (E : Exa Z h a C0) (hM : own_Met l Z y bytes maxL ret rm as' h Q)
    (W : Nat) (hf : rm.frames + 1 ≤ R.frames) (hl : W + (maxL + 11) + rm.locals ≤ R.locals) (hC : cells + rm.cells ≤ R.cells) (hS : slots + rm.slots ≤ R.slots)
    {g : JFrame} (hg : g.method = m) (hsize : g.locals.size = c.maxLocals) (argsL rest : List Value) (hlen : ∀ sig, parseMethodDescriptor y.desc = some sig → argsL.length = sig.parameters.length)
    (hstack : g.stack = argsL.reverse ++ .ref a :: rest) (has : (Value.ref a :: argsL).toArray = as') (hW : 2 * g.monitorRoom + (rest.map fun v => v.category).sum ≤ W) (hd : decode c.code g.pc = .ok (.invokevirtual index, 3))
    (k : ∀ v T' h' L, Stand p l e R s m args below meth c T' (locs ++ L) (cells + rm.cells) (slots + rm.slots) → T'.heap = h' → Q v h' L → own_Ends p e below s C S Qv T' { g with pc := g.pc + 3, stack := v.toList ++ rest }) : own_Ends p e below s C S Qv T g := by
  obtain ⟨cq, kq, q1, q2, q3⟩ := isOf hZ eT E
  obtain ⟨v, _, ⟨T', L', k', n'⟩, -, X', ⟨Lc, hQ, l1, y1, z1⟩, st⟩ := X.virtualBack hx (y := y) (z := y) hown (mvT hZ w1) (mvT hZ w5) (notFace_of_selects (args := #[]) (mvT hZ w6)) (mvT hZ w6) (mvT hZ w2) hy (backOf (W := W) hM hZ w4 w3 hf hl) q1 q3 (g := g) hg hsize (Steps.refl _) (argsL := argsL) (rest := rest) hlen hstack hW hd (fun _ _ => ⟨has, eT, hC, hS⟩)
  dsimp only [Pt.U, Pt.locs, Pt.cells, Pt.slots] at X' l1 y1 z1 st hQ
  subst l1 y1 z1
  exact own_go _ (fun t q => st.trans q) (k v T' _ Lc X' rfl hQ)
theorem own_callP (X : Stand p l e R s m args below meth c T locs cells slots) (hx : p.tables.exec = Jvm.exec) (hZ : Z.Warmed39 s.vm) {own C0 : String} {index kk : Nat} {y : MethodName} {bytes : ByteArray} {maxL : Nat} {ret : Option FieldType} {rm : Room} {as' : Array Value} {Q : Option Value → Heap → List Loc → Prop}
    (hown : s.vm.findClass own = some m.cls) (w1 : (Jvm.Cond.methodLink own index y).before a0 Z = true) (w2 : (Jvm.Cond.instanceMethod y).before a0 Z = true) (wi : (Jvm.Cond.instantiable y.cls kk).before a0 Z = true) (w5 : (Jvm.Cond.privateMethod y).before a0 Z = true) (w3 : (Jvm.Cond.initialized y.cls).before a0 Z = true) (w4 : (Jvm.Cond.code y bytes maxL ret).before a0 Z = true)
    (hy : y.cls ≠ "java/lang/invoke/MethodHandle" ∧ y.cls ≠ "java/lang/invoke/VarHandle") (eT : T.heap = h) (a : Addr) (E : Exa Z h a C0) (hM : own_Met l Z y bytes maxL ret rm as' h Q)
    (W : Nat) (hf : rm.frames + 1 ≤ R.frames) (hl : W + (maxL + 11) + rm.locals ≤ R.locals) (hC : cells + rm.cells ≤ R.cells) (hS : slots + rm.slots ≤ R.slots)
    {g : JFrame} (hg : g.method = m) (hsize : g.locals.size = c.maxLocals) (argsL rest : List Value) (hlen : ∀ sig, parseMethodDescriptor y.desc = some sig → argsL.length = sig.parameters.length)
    (hstack : g.stack = argsL.reverse ++ .ref a :: rest) (has : (Value.ref a :: argsL).toArray = as') (hW : 2 * g.monitorRoom + (rest.map fun v => v.category).sum ≤ W) (hd : decode c.code g.pc = .ok (.invokevirtual index, 3))
    (k : ∀ v T' h' L, Stand p l e R s m args below meth c T' (locs ++ L) (cells + rm.cells) (slots + rm.slots) → T'.heap = h' → Q v h' L → own_Ends p e below s C S Qv T' { g with pc := g.pc + 3, stack := v.toList ++ rest }) : own_Ends p e below s C S Qv T g := by
  obtain ⟨cq, q1, q2⟩ := E.cell
  have hp := Cond.privateMethod_at (mvP hZ w5 (args := #[]))
  obtain ⟨c2, k2, i1, i2, i3, i4, -⟩ := Cond.instantiable_spec (mvT (args := args) hZ wi)
  have hni : k2.isInterface = false := (Bool.or_eq_false_iff.mp i4).1
  have w6 := selects_self_of_private i1 i2 hni hp (mvT (args := args) hZ w2) hy
  obtain ⟨v, _, ⟨T', L', k', n'⟩, -, X', ⟨Lc, hQ, l1, y1, z1⟩, st⟩ := X.privateBack hx (y := y) hown (mvT hZ w1) (mvT hZ w2) w6 hp (mvT hZ w4) hy (backOf (W := W) hM hZ w4 w3 hf hl) (g := g) hg hsize (Steps.refl _) (a := a) (by rw [eT]; exact q1) q2 (argsL := argsL) (rest := rest) hlen hstack hW hd (fun _ _ => ⟨has, eT, hC, hS⟩)
  dsimp only [Pt.U, Pt.locs, Pt.cells, Pt.slots] at X' l1 y1 z1 st hQ
  subst l1 y1 z1
  exact own_go _ (fun t q => st.trans q) (k v T' _ Lc X' rfl hQ)
abbrev own_rel (cd : ClassFile.Cond) (a b : Int) : Prop := match cd with | .eq => a = b | .ne => ¬ a = b | .lt => a < b | .ge => b ≤ a | .gt => b < a | .le => a ≤ b
theorem own_icT {cd : ClassFile.Cond} {x y : Int32} (h : own_rel cd x.toInt y.toInt) : if_icmp.holds cd x y = true := by
  cases cd <;> simp [own_rel] at h <;> simp [if_icmp.holds, Int32.lt_iff_toInt_lt, Int32.le_iff_toInt_le, ← Int32.toInt_inj, h]
theorem own_icF {cd : ClassFile.Cond} {x y : Int32} (h : ¬ own_rel cd x.toInt y.toInt) : if_icmp.holds cd x y = false := by
  cases cd <;> simp [own_rel] at h <;> simp [if_icmp.holds, Int32.lt_iff_toInt_lt, Int32.le_iff_toInt_le, ← Int32.toInt_inj, h]
theorem own_zT {cd : ClassFile.Cond} {x : Int32} (h : own_rel cd x.toInt 0) : ifCond.holds cd x = true := (if0 cd x).trans (own_icT h)
theorem own_zF {cd : ClassFile.Cond} {x : Int32} (h : ¬ own_rel cd x.toInt 0) : ifCond.holds cd x = false := (if0 cd x).trans (own_icF h)
theorem own_cmp (cd : ClassFile.Cond) (x y : Int64) : own_rel cd (lcmpW x y).toInt 0 ↔ own_rel cd x.toInt y.toInt := by
  have h := c_lcmp x y
  cases cd <;> simp only [own_rel] <;> omega
theorem own_lcT {cd : ClassFile.Cond} {x y : Int64} (h : own_rel cd x.toInt y.toInt) : ifCond.holds cd (lcmpW x y) = true := own_zT ((own_cmp cd x y).mpr h)
theorem own_lcF {cd : ClassFile.Cond} {x y : Int64} (h : ¬ own_rel cd x.toInt y.toInt) : ifCond.holds cd (lcmpW x y) = false := own_zF (fun q => h ((own_cmp cd x y).mp q))
theorem own_xorm1 (x : Int64) : (x ^^^ (-1 : Int64)).toInt = -x.toInt - 1 := by
  have h : x ^^^ (-1 : Int64) = ~~~x := by
    apply Int64.toBitVec_inj.mp
    show x.toBitVec ^^^ BitVec.ofInt 64 (-1) = ~~~x.toBitVec
    have : BitVec.ofInt 64 (-1) = BitVec.allOnes 64 := by decide
    rw [this, BitVec.xor_allOnes]
  rw [h, Int64.toInt_not]
  have := rng64 x
  have e : (-x.toInt - 1).bmod (2 ^ 64) = -x.toInt - 1 := by
    rw [Int.bmod_eq_of_le] <;> omega
  first | exact e | omega
theorem own_nz32 {y : Int32} (h : ¬ y.toInt = 0) : y ≠ 0 := fun q => h (by rw [q]; rfl)
theorem own_nz64 {y : Int64} (h : ¬ y.toInt = 0) : y ≠ 0 := fun q => h (by rw [q]; rfl)
theorem own_lremV (x y : Int64) : 0 ≤ x.toInt → 0 < y.toInt → 0 ≤ (x - (x / y) * y).toInt ∧ (x - (x / y) * y).toInt < y.toInt ∧ (x - (x / y) * y).toInt ≤ x.toInt := by
  intro h0 h1
  rw [(c_lrem x y y.toInt rfl).1 h0]
  refine ⟨Int.emod_nonneg _ (by omega), Int.emod_lt_of_pos _ h1, ?_⟩
  have := Int.emod_add_mul_ediv x.toInt y.toInt
  have h2 : 0 ≤ x.toInt / y.toInt := Int.ediv_nonneg h0 (by omega)
  have h3 : 0 ≤ y.toInt * (x.toInt / y.toInt) := Int.mul_nonneg (by omega) h2
  omega
theorem own_iremV (x y : Int32) : 0 ≤ x.toInt → 0 < y.toInt → 0 ≤ (x % y).toInt ∧ (x % y).toInt < y.toInt ∧ (x % y).toInt ≤ x.toInt := fun h0 h1 =>
  have h := (c_iremV x y).1 h0 h1
  ⟨h.1, h.2.1, h.2.2.1⟩
end Own
theorem dR_0 : decode jdk_30_method_1_code 0 = .ok (.aload_n 0, 1) := by decide +kernel
theorem dR_1 : decode jdk_30_method_1_code 1 = .ok (.invokespecial 1, 3) := by decide +kernel
theorem dR_4 : decode jdk_30_method_1_code 4 = .ok (.return_, 1) := by decide +kernel
theorem pfR : plainFor (⟨"java/lang/Record", "<init>", "()V"⟩ : MethodName) = true := by decide +kernel
set_option maxHeartbeats 4000000 in
theorem efR (m : MethodId) (a : Addr) : entryFrame m #[(.ref a)] 1 = (mkF m 0 #[.val (.ref a)] []) := by first | (simp [entryFrame, mkF, argsToLocals, Value.category, maxLocals]; done) | rfl
def QR (Z : State) (a : Addr) (h0 : Heap) (n0 : Nat) (v : Option Value) (h : Heap) (L : List Loc) : Prop := v = none ∧ Fr n0 L ∧ h = h0
set_option maxRecDepth 65536 in
set_option maxHeartbeats 40000000 in
theorem rmR (l : Launch) (Z : State) (a0 : Array Value) (hw : ∀ d ∈ tables_1, d.before a0 Z = true) (ws : List Jvm.Cond) (a : Addr) (h0 : Heap) (n0 : Nat) (Z0 : n0 ≤ h0.size) :
    MetFree l (⟨"java/lang/Record", "<init>", "()V"⟩ : MethodName) (head1 (Jvm.Cond.code (⟨"java/lang/Record", "<init>", "()V"⟩ : MethodName) jdk_30_method_1_code 1 none :: ws) ({ frames := 1, cells := 0, slots := 0, locals := 12 } : Room)) (fun aa U => aa = #[(.ref a)] ∧ Z.Warmed39 U.vm ∧ U.heap = h0) (fun _ _ _ _ _ => True) (fun _ U o U' => ∃ v L, o = .returned v ∧ QR Z a h0 n0 v U'.heap L ∧ FrameEnd U o U' L ({ frames := 1, cells := 0, slots := 0, locals := 12 } : Room).cells ({ frames := 1, cells := 0, slots := 0, locals := 12 } : Room).slots) := by
  refine own_met pfR ?_
  intro p e s m below meth c T0 hx hby hml hown hret hlk hnm hZ X0 e0
  have N0 := Fr.nil n0
  rw [efR]
  refine own_go (mkF m 1 #[.val (.ref a)] [(.ref a)]) (fun t k => XS.aloadN X0.here hx rfl (hb hby dR_0) rfl rfl k) ?_
  obtain ⟨T1, X1, e1, st1⟩ := initO X0 hx hZ hown (hw _ (List.mem_of_getElem? (i := 16) rfl)) (hw _ (List.mem_of_getElem? (i := 17) rfl)) (hw _ (List.mem_of_getElem? (i := 18) rfl)) e0 (g := (mkF m 1 #[.val (.ref a)] [(.ref a)])) rfl (by rw [hml]; rfl) rfl (hb hby dR_1) (by decide) (W := 0) (by show 2 * 0 + _ ≤ _; exact Nat.le_of_eq rfl) (by decide)
  refine own_go (T' := T1) (mkF m 4 #[.val (.ref a)] []) st1 ?_
  refine own_ret0 X1 hx hlk hret (hb hby dR_4) (by decide) (by decide) ?_
  rw [e1]
  exact ⟨rfl, N0, rfl⟩
theorem dM_0 : decode jdk_29_method_65_code 0 = .ok (.iload_n 0, 1) := by decide +kernel
theorem dM_1 : decode jdk_29_method_65_code 1 = .ok (.iload_n 1, 1) := by decide +kernel
theorem dM_2 : decode jdk_29_method_65_code 2 = .ok (.if_icmp .lt 7, 3) := by decide +kernel
theorem dM_5 : decode jdk_29_method_65_code 5 = .ok (.iload_n 0, 1) := by decide +kernel
theorem dM_6 : decode jdk_29_method_65_code 6 = .ok (.goto 4, 3) := by decide +kernel
theorem dM_9 : decode jdk_29_method_65_code 9 = .ok (.iload_n 1, 1) := by decide +kernel
theorem dM_10 : decode jdk_29_method_65_code 10 = .ok (.ireturn, 1) := by decide +kernel
theorem pfM : plainFor (⟨"java/lang/Math", "max", "(II)I"⟩ : MethodName) = true := by decide +kernel
set_option maxHeartbeats 4000000 in
theorem efM (m : MethodId) (q1 : Int32) (q2 : Int32) : entryFrame m #[(.int q1), (.int q2)] 2 = (mkF m 0 #[.val (.int q1), .val (.int q2)] []) := by first | (simp [entryFrame, mkF, argsToLocals, Value.category, maxLocals]; done) | rfl
def QM (Z : State) (q1 : Int32) (q2 : Int32) (h0 : Heap) (n0 : Nat) (v : Option Value) (h : Heap) (L : List Loc) : Prop := (∃ r : Int32, v = some (.int r) ∧ (q1.toInt ≤ r.toInt ∧ q2.toInt ≤ r.toInt ∧ (r.toInt = q1.toInt ∨ r.toInt = q2.toInt))) ∧ Fr n0 L ∧ h = h0
set_option maxRecDepth 65536 in
set_option maxHeartbeats 40000000 in
theorem rmM (l : Launch) (Z : State) (a0 : Array Value) (hw : ∀ d ∈ tables_1, d.before a0 Z = true) (ws : List Jvm.Cond) (q1 : Int32) (q2 : Int32) (h0 : Heap) (n0 : Nat) (Z0 : n0 ≤ h0.size) :
    MetFree l (⟨"java/lang/Math", "max", "(II)I"⟩ : MethodName) (head1 (Jvm.Cond.code (⟨"java/lang/Math", "max", "(II)I"⟩ : MethodName) jdk_29_method_65_code 2 (some Jvm.ClassFile.FieldType.int) :: ws) ({ frames := 0, cells := 0, slots := 0, locals := 0 } : Room)) (fun aa U => aa = #[(.int q1), (.int q2)] ∧ Z.Warmed39 U.vm ∧ U.heap = h0) (fun _ _ _ _ _ => True) (fun _ U o U' => ∃ v L, o = .returned v ∧ QM Z q1 q2 h0 n0 v U'.heap L ∧ FrameEnd U o U' L ({ frames := 0, cells := 0, slots := 0, locals := 0 } : Room).cells ({ frames := 0, cells := 0, slots := 0, locals := 0 } : Room).slots) := by
  refine own_met pfM ?_
  intro p e s m below meth c T0 hx hby hml hown hret hlk hnm hZ X0 e0
  have N0 := Fr.nil n0
  have r_q1 := rng32 q1
  have r_q2 := rng32 q2
  rw [efM]
  refine own_go (mkF m 1 #[.val (.int q1), .val (.int q2)] [(.int q1)]) (fun t k => XS.iloadN X0.here hx rfl (hb hby dM_0) rfl k) ?_
  refine own_go (mkF m 2 #[.val (.int q1), .val (.int q2)] [(.int q2), (.int q1)]) (fun t k => XS.iloadN X0.here hx rfl (hb hby dM_1) rfl k) ?_
  by_cases c2 : q1.toInt < q2.toInt
  · skip
    refine own_go (mkF m 9 #[.val (.int q1), .val (.int q2)] []) (fun t k => XS.icmpYes X0.here hx rfl (pc0 := 2) (pc' := 9) rfl (hb hby dM_2) rfl (own_icT (cd := .lt) c2) (by decide) (by decide) k) ?_
    refine own_go (mkF m 10 #[.val (.int q1), .val (.int q2)] [(.int q2)]) (fun t k => XS.iloadN X0.here hx rfl (hb hby dM_9) rfl k) ?_
    refine own_retI X0 hx hlk hret (by simp) rfl (hb hby dM_10) (by decide) (by decide) ?_
    rw [e0]
    refine ⟨⟨_, rfl, ?_⟩, N0, rfl⟩
    omega
  · skip
    refine own_go (mkF m 5 #[.val (.int q1), .val (.int q2)] []) (fun t k => XS.icmpNo X0.here hx rfl (hb hby dM_2) rfl (own_icF (cd := .lt) c2) k) ?_
    refine own_go (mkF m 6 #[.val (.int q1), .val (.int q2)] [(.int q1)]) (fun t k => XS.iloadN X0.here hx rfl (hb hby dM_5) rfl k) ?_
    refine own_go (mkF m 10 #[.val (.int q1), .val (.int q2)] [(.int q1)]) (fun t k => XS.goto X0.here hx rfl (pc0 := 6) (pc' := 10) rfl (hb hby dM_6) (by decide) (by decide) k) ?_
    refine own_retI X0 hx hlk hret (by simp) rfl (hb hby dM_10) (by decide) (by decide) ?_
    rw [e0]
    refine ⟨⟨_, rfl, ?_⟩, N0, rfl⟩
    omega
theorem d1_0 : decode prog_29_method_1_code 0 = .ok (.aload_n 0, 1) := by decide +kernel
theorem d1_1 : decode prog_29_method_1_code 1 = .ok (.invokespecial 1, 3) := by decide +kernel
theorem d1_4 : decode prog_29_method_1_code 4 = .ok (.aload_n 0, 1) := by decide +kernel
theorem d1_5 : decode prog_29_method_1_code 5 = .ok (.lload_n 1, 1) := by decide +kernel
theorem d1_6 : decode prog_29_method_1_code 6 = .ok (.putfield 7, 3) := by decide +kernel
theorem d1_9 : decode prog_29_method_1_code 9 = .ok (.aload_n 0, 1) := by decide +kernel
theorem d1_10 : decode prog_29_method_1_code 10 = .ok (.lload_n 3, 1) := by decide +kernel
theorem d1_11 : decode prog_29_method_1_code 11 = .ok (.putfield 13, 3) := by decide +kernel
theorem d1_14 : decode prog_29_method_1_code 14 = .ok (.aload_n 0, 1) := by decide +kernel
theorem d1_15 : decode prog_29_method_1_code 15 = .ok (.iload 5, 2) := by decide +kernel
theorem d1_17 : decode prog_29_method_1_code 17 = .ok (.putfield 16, 3) := by decide +kernel
theorem d1_20 : decode prog_29_method_1_code 20 = .ok (.aload_n 0, 1) := by decide +kernel
theorem d1_21 : decode prog_29_method_1_code 21 = .ok (.lload 6, 2) := by decide +kernel
theorem d1_23 : decode prog_29_method_1_code 23 = .ok (.putfield 20, 3) := by decide +kernel
theorem d1_26 : decode prog_29_method_1_code 26 = .ok (.return_, 1) := by decide +kernel
theorem pd1_0 : parseMethodDescriptor "()V" = some ⟨[], none⟩ := by decide +kernel
theorem pf1 : plainFor (⟨"com/example/tallygate/tallygate/core/Sequences$Run", "<init>", "(JJIJ)V"⟩ : MethodName) = true := by decide +kernel
set_option maxHeartbeats 4000000 in
theorem ef1 (m : MethodId) (a : Addr) (q1 : Int64) (q2 : Int64) (q3 : Int32) (q4 : Int64) : entryFrame m #[(.ref a), (.long q1), (.long q2), (.int q3), (.long q4)] 8 = (mkF m 0 #[.val (.ref a), .val (.long q1), .second, .val (.long q2), .second, .val (.int q3), .val (.long q4), .second] []) := by first | (simp [entryFrame, mkF, argsToLocals, Value.category, maxLocals]; done) | rfl
def Q1 (Z : State) (a : Addr) (q1 : Int64) (q2 : Int64) (q3 : Int32) (q4 : Int64) (h0 : Heap) (n0 : Nat) (v : Option Value) (h : Heap) (L : List Loc) : Prop := v = none ∧ Fr n0 L ∧ Keep h0 h [a] ∧ Exa Z h a "com/example/tallygate/tallygate/core/Sequences$Run" ∧ Fld Z h a "com/example/tallygate/tallygate/core/Sequences$Run" "first" "J" (.long q1) ∧ Fld Z h a "com/example/tallygate/tallygate/core/Sequences$Run" "step" "J" (.long q2) ∧ Fld Z h a "com/example/tallygate/tallygate/core/Sequences$Run" "count" "I" (.int q3) ∧ Fld Z h a "com/example/tallygate/tallygate/core/Sequences$Run" "timeMillis" "J" (.long q4)
set_option maxRecDepth 65536 in
set_option maxHeartbeats 40000000 in
theorem rm1 (l : Launch) (Z : State) (a0 : Array Value) (hw : ∀ d ∈ tables_1, d.before a0 Z = true) (ws : List Jvm.Cond) (a : Addr) (q1 : Int64) (q2 : Int64) (q3 : Int32) (q4 : Int64) (h0 : Heap) (n0 : Nat) (Z0 : n0 ≤ h0.size) (E_a : Exa Z h0 a "com/example/tallygate/tallygate/core/Sequences$Run") (F_first_a : Fld Z h0 a "com/example/tallygate/tallygate/core/Sequences$Run" "first" "J" (.long (0 : Int64))) (F_step_a : Fld Z h0 a "com/example/tallygate/tallygate/core/Sequences$Run" "step" "J" (.long (0 : Int64))) (F_count_a : Fld Z h0 a "com/example/tallygate/tallygate/core/Sequences$Run" "count" "I" (.int (0 : Int32))) (F_timeMillis_a : Fld Z h0 a "com/example/tallygate/tallygate/core/Sequences$Run" "timeMillis" "J" (.long (0 : Int64))) (g_a : n0 ≤ a) :
    MetFree l (⟨"com/example/tallygate/tallygate/core/Sequences$Run", "<init>", "(JJIJ)V"⟩ : MethodName) (head1 (Jvm.Cond.code (⟨"com/example/tallygate/tallygate/core/Sequences$Run", "<init>", "(JJIJ)V"⟩ : MethodName) prog_29_method_1_code 8 none :: ws) ({ frames := 2, cells := 0, slots := 0, locals := 24 } : Room)) (fun aa U => aa = #[(.ref a), (.long q1), (.long q2), (.int q3), (.long q4)] ∧ Z.Warmed39 U.vm ∧ U.heap = h0) (fun _ _ _ _ _ => True) (fun _ U o U' => ∃ v L, o = .returned v ∧ Q1 Z a q1 q2 q3 q4 h0 n0 v U'.heap L ∧ FrameEnd U o U' L ({ frames := 2, cells := 0, slots := 0, locals := 24 } : Room).cells ({ frames := 2, cells := 0, slots := 0, locals := 24 } : Room).slots) := by
  refine own_met pf1 ?_
  intro p e s m below meth c T0 hx hby hml hown hret hlk hnm hZ X0 e0
  have N0 := Fr.nil n0
  have K0 := Keep.refl h0 [a]
  have r_q1 := rng64 q1
  have r_q2 := rng64 q2
  have r_q3 := rng32 q3
  have r_q4 := rng64 q4
  rw [ef1]
  refine own_go (mkF m 1 #[.val (.ref a), .val (.long q1), .second, .val (.long q2), .second, .val (.int q3), .val (.long q4), .second] [(.ref a)]) (fun t k => XS.aloadN X0.here hx rfl (hb hby d1_0) rfl rfl k) ?_
  refine own_callI X0 hx hZ (y := (⟨"java/lang/Record", "<init>", "()V"⟩ : MethodName)) hown rfl (hw _ (List.mem_of_getElem? (i := 11) rfl)) (hw _ (List.mem_of_getElem? (i := 12) rfl)) (hw _ (List.mem_of_getElem? (i := 14) rfl)) (hw _ (List.mem_of_getElem? (i := 15) rfl)) (by decide) e0 (rmR l Z a0 hw [] a h0 n0 Z0) 0 (by decide) (by decide) (by decide) (by decide) (g := (mkF m 1 #[.val (.ref a), .val (.long q1), .second, .val (.long q2), .second, .val (.int q3), .val (.long q4), .second] [(.ref a)])) rfl (by rw [hml]; rfl) a [] [] (lenOf pd1_0 rfl) rfl rfl (by show 2 * 0 + _ ≤ _; exact Nat.le_of_eq rfl) (hb hby d1_1) ?_
  intro rv1 T1 h1 L1 X1 e1 hQ1
  obtain ⟨rfl, NQ1, eq1⟩ := hQ1
  rw [eq1] at e1
  have N1 := Fr.app N0 NQ1
  show own_Ends p e below s ({ frames := 2, cells := 0, slots := 0, locals := 24 } : Room).cells ({ frames := 2, cells := 0, slots := 0, locals := 24 } : Room).slots (Q1 Z a q1 q2 q3 q4 h0 n0) T1 (mkF m 4 #[.val (.ref a), .val (.long q1), .second, .val (.long q2), .second, .val (.int q3), .val (.long q4), .second] [])
  refine own_go (mkF m 5 #[.val (.ref a), .val (.long q1), .second, .val (.long q2), .second, .val (.int q3), .val (.long q4), .second] [(.ref a)]) (fun t k => XS.aloadN X1.here hx rfl (hb hby d1_4) rfl rfl k) ?_
  refine own_go (mkF m 6 #[.val (.ref a), .val (.long q1), .second, .val (.long q2), .second, .val (.int q3), .val (.long q4), .second] [(.long q1), (.ref a)]) (fun t k => XS.lloadN X1.here hx rfl (hb hby d1_5) rfl k) ?_
  obtain ⟨T6, h6, X6, e6, W6, st6⟩ := putF X1 hx hZ hown (host := "") (Or.inl (hw _ (List.mem_of_getElem? (i := 19) rfl))) Via.refl e1 F_first_a E_a (Or.inr ⟨(hw _ (List.mem_of_getElem? (i := 20) rfl)), rfl, hnm⟩) (hw _ (List.mem_of_getElem? (i := 6) rfl)) (ty := .long) (by decide) rfl rfl (g := (mkF m 6 #[.val (.ref a), .val (.long q1), .second, .val (.long q2), .second, .val (.int q3), .val (.long q4), .second] [(.long q1), (.ref a)])) rfl rfl (hb hby d1_6)
  have N6 := Fr.snoc X6 N1 g_a
  have E_a_6 := E_a.wr W6
  have K0_6 := K0.wr W6 (Or.inl (List.mem_cons_self ..))
  have F_first_a_6 := F_first_a.same W6
  have F_step_a_6 := F_step_a.other W6 (Or.inr (slot_ne (Or.inr (hw _ (List.mem_of_getElem? (i := 22) rfl))) (Or.inr (hw _ (List.mem_of_getElem? (i := 20) rfl))) (by decide) (t := .long) (t' := .long) (by decide) (by decide)))
  have F_count_a_6 := F_count_a.other W6 (Or.inr (slot_ne (Or.inr (hw _ (List.mem_of_getElem? (i := 24) rfl))) (Or.inr (hw _ (List.mem_of_getElem? (i := 20) rfl))) (by decide) (t := .int) (t' := .long) (by decide) (by decide)))
  have F_timeMillis_a_6 := F_timeMillis_a.other W6 (Or.inr (slot_ne (Or.inr (hw _ (List.mem_of_getElem? (i := 26) rfl))) (Or.inr (hw _ (List.mem_of_getElem? (i := 20) rfl))) (by decide) (t := .long) (t' := .long) (by decide) (by decide)))
  have Z0_6 : n0 ≤ h6.size := by rw [W6.size]; exact Z0
  refine own_go (T' := T6) (mkF m 9 #[.val (.ref a), .val (.long q1), .second, .val (.long q2), .second, .val (.int q3), .val (.long q4), .second] []) st6 ?_
  refine own_go (mkF m 10 #[.val (.ref a), .val (.long q1), .second, .val (.long q2), .second, .val (.int q3), .val (.long q4), .second] [(.ref a)]) (fun t k => XS.aloadN X6.here hx rfl (hb hby d1_9) rfl rfl k) ?_
  refine own_go (mkF m 11 #[.val (.ref a), .val (.long q1), .second, .val (.long q2), .second, .val (.int q3), .val (.long q4), .second] [(.long q2), (.ref a)]) (fun t k => XS.lloadN X6.here hx rfl (hb hby d1_10) rfl k) ?_
  obtain ⟨T11, h11, X11, e11, W11, st11⟩ := putF X6 hx hZ hown (host := "") (Or.inl (hw _ (List.mem_of_getElem? (i := 21) rfl))) Via.refl e6 F_step_a_6 E_a_6 (Or.inr ⟨(hw _ (List.mem_of_getElem? (i := 22) rfl)), rfl, hnm⟩) (hw _ (List.mem_of_getElem? (i := 6) rfl)) (ty := .long) (by decide) rfl rfl (g := (mkF m 11 #[.val (.ref a), .val (.long q1), .second, .val (.long q2), .second, .val (.int q3), .val (.long q4), .second] [(.long q2), (.ref a)])) rfl rfl (hb hby d1_11)
  have N11 := Fr.snoc X11 N6 g_a
  have E_a_11 := E_a_6.wr W11
  have K0_11 := K0_6.wr W11 (Or.inl (List.mem_cons_self ..))
  have F_first_a_11 := F_first_a_6.other W11 (Or.inr (slot_ne (Or.inr (hw _ (List.mem_of_getElem? (i := 20) rfl))) (Or.inr (hw _ (List.mem_of_getElem? (i := 22) rfl))) (by decide) (t := .long) (t' := .long) (by decide) (by decide)))
  have F_step_a_11 := F_step_a_6.same W11
  have F_count_a_11 := F_count_a_6.other W11 (Or.inr (slot_ne (Or.inr (hw _ (List.mem_of_getElem? (i := 24) rfl))) (Or.inr (hw _ (List.mem_of_getElem? (i := 22) rfl))) (by decide) (t := .int) (t' := .long) (by decide) (by decide)))
  have F_timeMillis_a_11 := F_timeMillis_a_6.other W11 (Or.inr (slot_ne (Or.inr (hw _ (List.mem_of_getElem? (i := 26) rfl))) (Or.inr (hw _ (List.mem_of_getElem? (i := 22) rfl))) (by decide) (t := .long) (t' := .long) (by decide) (by decide)))
  have Z0_11 : n0 ≤ h11.size := by rw [W11.size]; exact Z0_6
  refine own_go (T' := T11) (mkF m 14 #[.val (.ref a), .val (.long q1), .second, .val (.long q2), .second, .val (.int q3), .val (.long q4), .second] []) st11 ?_
  refine own_go (mkF m 15 #[.val (.ref a), .val (.long q1), .second, .val (.long q2), .second, .val (.int q3), .val (.long q4), .second] [(.ref a)]) (fun t k => XS.aloadN X11.here hx rfl (hb hby d1_14) rfl rfl k) ?_
  refine own_go (mkF m 17 #[.val (.ref a), .val (.long q1), .second, .val (.long q2), .second, .val (.int q3), .val (.long q4), .second] [(.int q3), (.ref a)]) (fun t k => XS.iload X11.here hx rfl (hb hby d1_15) rfl k) ?_
  obtain ⟨T17, h17, X17, e17, W17, st17⟩ := putF X11 hx hZ hown (host := "") (Or.inl (hw _ (List.mem_of_getElem? (i := 23) rfl))) Via.refl e11 F_count_a_11 E_a_11 (Or.inr ⟨(hw _ (List.mem_of_getElem? (i := 24) rfl)), rfl, hnm⟩) (hw _ (List.mem_of_getElem? (i := 6) rfl)) (ty := .int) (by decide) rfl rfl (g := (mkF m 17 #[.val (.ref a), .val (.long q1), .second, .val (.long q2), .second, .val (.int q3), .val (.long q4), .second] [(.int q3), (.ref a)])) rfl rfl (hb hby d1_17)
  have N17 := Fr.snoc X17 N11 g_a
  have E_a_17 := E_a_11.wr W17
  have K0_17 := K0_11.wr W17 (Or.inl (List.mem_cons_self ..))
  have F_first_a_17 := F_first_a_11.other W17 (Or.inr (slot_ne (Or.inr (hw _ (List.mem_of_getElem? (i := 20) rfl))) (Or.inr (hw _ (List.mem_of_getElem? (i := 24) rfl))) (by decide) (t := .long) (t' := .int) (by decide) (by decide)))
  have F_step_a_17 := F_step_a_11.other W17 (Or.inr (slot_ne (Or.inr (hw _ (List.mem_of_getElem? (i := 22) rfl))) (Or.inr (hw _ (List.mem_of_getElem? (i := 24) rfl))) (by decide) (t := .long) (t' := .int) (by decide) (by decide)))
  have F_count_a_17 := F_count_a_11.same W17
  have F_timeMillis_a_17 := F_timeMillis_a_11.other W17 (Or.inr (slot_ne (Or.inr (hw _ (List.mem_of_getElem? (i := 26) rfl))) (Or.inr (hw _ (List.mem_of_getElem? (i := 24) rfl))) (by decide) (t := .long) (t' := .int) (by decide) (by decide)))
  have Z0_17 : n0 ≤ h17.size := by rw [W17.size]; exact Z0_11
  refine own_go (T' := T17) (mkF m 20 #[.val (.ref a), .val (.long q1), .second, .val (.long q2), .second, .val (.int q3), .val (.long q4), .second] []) st17 ?_
  refine own_go (mkF m 21 #[.val (.ref a), .val (.long q1), .second, .val (.long q2), .second, .val (.int q3), .val (.long q4), .second] [(.ref a)]) (fun t k => XS.aloadN X17.here hx rfl (hb hby d1_20) rfl rfl k) ?_
  refine own_go (mkF m 23 #[.val (.ref a), .val (.long q1), .second, .val (.long q2), .second, .val (.int q3), .val (.long q4), .second] [(.long q4), (.ref a)]) (fun t k => XS.lload X17.here hx rfl (hb hby d1_21) rfl k) ?_
  obtain ⟨T23, h23, X23, e23, W23, st23⟩ := putF X17 hx hZ hown (host := "") (Or.inl (hw _ (List.mem_of_getElem? (i := 25) rfl))) Via.refl e17 F_timeMillis_a_17 E_a_17 (Or.inr ⟨(hw _ (List.mem_of_getElem? (i := 26) rfl)), rfl, hnm⟩) (hw _ (List.mem_of_getElem? (i := 6) rfl)) (ty := .long) (by decide) rfl rfl (g := (mkF m 23 #[.val (.ref a), .val (.long q1), .second, .val (.long q2), .second, .val (.int q3), .val (.long q4), .second] [(.long q4), (.ref a)])) rfl rfl (hb hby d1_23)
  have N23 := Fr.snoc X23 N17 g_a
  have E_a_23 := E_a_17.wr W23
  have K0_23 := K0_17.wr W23 (Or.inl (List.mem_cons_self ..))
  have F_first_a_23 := F_first_a_17.other W23 (Or.inr (slot_ne (Or.inr (hw _ (List.mem_of_getElem? (i := 20) rfl))) (Or.inr (hw _ (List.mem_of_getElem? (i := 26) rfl))) (by decide) (t := .long) (t' := .long) (by decide) (by decide)))
  have F_step_a_23 := F_step_a_17.other W23 (Or.inr (slot_ne (Or.inr (hw _ (List.mem_of_getElem? (i := 22) rfl))) (Or.inr (hw _ (List.mem_of_getElem? (i := 26) rfl))) (by decide) (t := .long) (t' := .long) (by decide) (by decide)))
  have F_count_a_23 := F_count_a_17.other W23 (Or.inr (slot_ne (Or.inr (hw _ (List.mem_of_getElem? (i := 24) rfl))) (Or.inr (hw _ (List.mem_of_getElem? (i := 26) rfl))) (by decide) (t := .int) (t' := .long) (by decide) (by decide)))
  have F_timeMillis_a_23 := F_timeMillis_a_17.same W23
  have Z0_23 : n0 ≤ h23.size := by rw [W23.size]; exact Z0_17
  refine own_go (T' := T23) (mkF m 26 #[.val (.ref a), .val (.long q1), .second, .val (.long q2), .second, .val (.int q3), .val (.long q4), .second] []) st23 ?_
  refine own_ret0 X23 hx hlk hret (hb hby d1_26) (by decide) (by decide) ?_
  rw [e23]
  exact ⟨rfl, N23, K0_23, E_a_23, F_first_a_23, F_step_a_23, F_count_a_23, F_timeMillis_a_23⟩
theorem d2_0 : decode prog_29_method_2_code 0 = .ok (.aload_n 0, 1) := by decide +kernel
theorem d2_1 : decode prog_29_method_2_code 1 = .ok (.getfield 7, 3) := by decide +kernel
theorem d2_4 : decode prog_29_method_2_code 4 = .ok (.iload_n 1, 1) := by decide +kernel
theorem d2_5 : decode prog_29_method_2_code 5 = .ok (.i2l, 1) := by decide +kernel
theorem d2_6 : decode prog_29_method_2_code 6 = .ok (.aload_n 0, 1) := by decide +kernel
theorem d2_7 : decode prog_29_method_2_code 7 = .ok (.getfield 13, 3) := by decide +kernel
theorem d2_10 : decode prog_29_method_2_code 10 = .ok (.lmul, 1) := by decide +kernel
theorem d2_11 : decode prog_29_method_2_code 11 = .ok (.ladd, 1) := by decide +kernel
theorem d2_12 : decode prog_29_method_2_code 12 = .ok (.lreturn, 1) := by decide +kernel
theorem pf2 : plainFor (⟨"com/example/tallygate/tallygate/core/Sequences$Run", "number", "(I)J"⟩ : MethodName) = true := by decide +kernel
set_option maxHeartbeats 4000000 in
theorem ef2 (m : MethodId) (a : Addr) (q1 : Int32) : entryFrame m #[(.ref a), (.int q1)] 2 = (mkF m 0 #[.val (.ref a), .val (.int q1)] []) := by first | (simp [entryFrame, mkF, argsToLocals, Value.category, maxLocals]; done) | rfl
def Q2 (Z : State) (a : Addr) (q1 : Int32) (w1 : Int64) (w2 : Int64) (h0 : Heap) (n0 : Nat) (v : Option Value) (h : Heap) (L : List Loc) : Prop := (∃ r : Int64, v = some (.long r) ∧ r = w1 + q1.toInt64 * w2) ∧ Fr n0 L ∧ h = h0
set_option maxRecDepth 65536 in
set_option maxHeartbeats 40000000 in
theorem rm2 (l : Launch) (Z : State) (a0 : Array Value) (hw : ∀ d ∈ tables_1, d.before a0 Z = true) (ws : List Jvm.Cond) (a : Addr) (q1 : Int32) (w1 : Int64) (w2 : Int64) (h0 : Heap) (n0 : Nat) (Z0 : n0 ≤ h0.size) (F_first_a : Fld Z h0 a "com/example/tallygate/tallygate/core/Sequences$Run" "first" "J" (.long w1)) (F_step_a : Fld Z h0 a "com/example/tallygate/tallygate/core/Sequences$Run" "step" "J" (.long w2)) :
    MetFree l (⟨"com/example/tallygate/tallygate/core/Sequences$Run", "number", "(I)J"⟩ : MethodName) (head1 (Jvm.Cond.code (⟨"com/example/tallygate/tallygate/core/Sequences$Run", "number", "(I)J"⟩ : MethodName) prog_29_method_2_code 2 (some Jvm.ClassFile.FieldType.long) :: ws) ({ frames := 0, cells := 0, slots := 0, locals := 0 } : Room)) (fun aa U => aa = #[(.ref a), (.int q1)] ∧ Z.Warmed39 U.vm ∧ U.heap = h0) (fun _ _ _ _ _ => True) (fun _ U o U' => ∃ v L, o = .returned v ∧ Q2 Z a q1 w1 w2 h0 n0 v U'.heap L ∧ FrameEnd U o U' L ({ frames := 0, cells := 0, slots := 0, locals := 0 } : Room).cells ({ frames := 0, cells := 0, slots := 0, locals := 0 } : Room).slots) := by
  refine own_met pf2 ?_
  intro p e s m below meth c T0 hx hby hml hown hret hlk hnm hZ X0 e0
  have N0 := Fr.nil n0
  rw [ef2]
  refine own_go (mkF m 1 #[.val (.ref a), .val (.int q1)] [(.ref a)]) (fun t k => XS.aloadN X0.here hx rfl (hb hby d2_0) rfl rfl k) ?_
  obtain ⟨T1, X1, e1, st1⟩ := getF X0 hx hZ hown (host := "") (Or.inl (hw _ (List.mem_of_getElem? (i := 19) rfl))) Via.refl e0 F_first_a (g := (mkF m 1 #[.val (.ref a), .val (.int q1)] [(.ref a)])) rfl rfl (hb hby d2_1)
  refine own_go (T' := T1) (mkF m 4 #[.val (.ref a), .val (.int q1)] [(.long w1)]) st1 ?_
  refine own_go (mkF m 5 #[.val (.ref a), .val (.int q1)] [(.int q1), (.long w1)]) (fun t k => XS.iloadN X1.here hx rfl (hb hby d2_4) rfl k) ?_
  refine own_go (mkF m 6 #[.val (.ref a), .val (.int q1)] [(.long (q1.toInt64)), (.long w1)]) (fun t k => XS.i2l X1.here hx rfl (hb hby d2_5) rfl k) ?_
  refine own_go (mkF m 7 #[.val (.ref a), .val (.int q1)] [(.ref a), (.long (q1.toInt64)), (.long w1)]) (fun t k => XS.aloadN X1.here hx rfl (hb hby d2_6) rfl rfl k) ?_
  obtain ⟨T7, X7, e7, st7⟩ := getF X1 hx hZ hown (host := "") (Or.inl (hw _ (List.mem_of_getElem? (i := 21) rfl))) Via.refl e1 F_step_a (g := (mkF m 7 #[.val (.ref a), .val (.int q1)] [(.ref a), (.long (q1.toInt64)), (.long w1)])) rfl rfl (hb hby d2_7)
  refine own_go (T' := T7) (mkF m 10 #[.val (.ref a), .val (.int q1)] [(.long w2), (.long (q1.toInt64)), (.long w1)]) st7 ?_
  refine own_go (mkF m 11 #[.val (.ref a), .val (.int q1)] [(.long ((q1.toInt64) * w2)), (.long w1)]) (fun t k => XS.lmul X7.here hx rfl (hb hby d2_10) rfl k) ?_
  refine own_go (mkF m 12 #[.val (.ref a), .val (.int q1)] [(.long (w1 + ((q1.toInt64) * w2)))]) (fun t k => XS.ladd X7.here hx rfl (hb hby d2_11) rfl k) ?_
  refine own_retL X7 hx hlk hret (hb hby d2_12) (by decide) (by decide) ?_
  rw [e7]
  exact ⟨⟨_, rfl, rfl⟩, N0, rfl⟩
theorem own_n0 {r f s : Int64} (h : r = f + (0 : Int32).toInt64 * s) : r.toInt = f.toInt := by
  rw [h]; have : (0 : Int32).toInt64 = 0 := rfl
  rw [this, Int64.zero_mul, Int64.add_zero]
theorem own_i2l_add {i j k : Int32} (h : k.toInt = i.toInt + j.toInt) : k.toInt64 = i.toInt64 + j.toInt64 := by
  apply Int64.toInt_inj.mp
  have h1 := c_ladd i.toInt64 j.toInt64
  have h2 := rng64 (i.toInt64 + j.toInt64)
  rw [c_i2l] at h1 ⊢
  rw [c_i2l] at h1
  have := rng32 i; have := rng32 j
  omega
theorem own_nij {f s ni nj nij a b c d : Int64} {i j k : Int32} (h : k.toInt = i.toInt + j.toInt) (h1 : ni = f + i.toInt64 * s) (h2 : nj = f + j.toInt64 * s) (h3 : nij = f + k.toInt64 * s) (ha : nij - f = a) (hb : ni - f = b) (hc : nj - f = c) (hd : b + c = d) : a.toInt = d.toInt := by
  rw [own_i2l_add h, Int64.add_mul] at h3
  subst ha hb hc hd h1 h2 h3
  generalize i.toInt64 * s = x
  generalize j.toInt64 * s = y
  have e1 : f + (x + y) - f = x + y := by rw [Int64.add_comm, Int64.add_sub_cancel]
  have e2 : f + x - f = x := by rw [Int64.add_comm, Int64.add_sub_cancel]
  have e3 : f + y - f = y := by rw [Int64.add_comm, Int64.add_sub_cancel]
  rw [e1, e2, e3]
theorem own_next {f s ni nn d : Int64} {i k : Int32} (h : k.toInt = i.toInt + 1) (h1 : ni = f + i.toInt64 * s) (h2 : nn = f + k.toInt64 * s) (hd : ni + s = d) : nn.toInt = d.toInt := by
  have h' : k.toInt64 = i.toInt64 + (1 : Int32).toInt64 := own_i2l_add h
  have one : (1 : Int32).toInt64 = 1 := rfl
  rw [h', one, Int64.add_mul, Int64.one_mul] at h2
  subst hd h1 h2
  rw [Int64.add_assoc]
theorem pd0_0 : parseMethodDescriptor "(II)I" = some ⟨[.int, .int], some .int⟩ := by decide +kernel
theorem pd0_1 : parseMethodDescriptor "(JJIJ)V" = some ⟨[.long, .long, .int, .long], none⟩ := by decide +kernel
theorem pd0_2 : parseMethodDescriptor "(I)J" = some ⟨[.int], some .long⟩ := by decide +kernel
theorem pf0 : plainFor (⟨"com/example/tallygate/tallygate/core/RunNumberPinLaw", "law", "(JJIIIJ)Z"⟩ : MethodName) = true := by decide +kernel
set_option maxHeartbeats 4000000 in
theorem ef0 (m : MethodId) (q1 : Int64) (q2 : Int64) (q3 : Int32) (q4 : Int32) (q5 : Int32) (q6 : Int64) : entryFrame m #[(.long q1), (.long q2), (.int q3), (.int q4), (.int q5), (.long q6)] maxLocals = (mkF m 0 #[.val (.long q1), .second, .val (.long q2), .second, .val (.int q3), .val (.int q4), .val (.int q5), .val (.long q6), .second, .unset, .unset, .unset, .unset, .unset, .unset, .unset, .unset, .unset, .unset, .unset, .unset, .unset, .unset, .unset] []) := by first | (simp [entryFrame, mkF, argsToLocals, Value.category, maxLocals]; done) | rfl
def Q0 (Z : State) (q1 : Int64) (q2 : Int64) (q3 : Int32) (q4 : Int32) (q5 : Int32) (q6 : Int64) (h0 : Heap) (n0 : Nat) (v : Option Value) (h : Heap) (L : List Loc) : Prop := v = some (.int 1) ∧ Fr n0 L
set_option maxRecDepth 65536 in
set_option maxHeartbeats 40000000 in
theorem rm0 (l : Launch) (Z : State) (a0 : Array Value) (hw : ∀ d ∈ tables_1, d.before a0 Z = true) (ws : List Jvm.Cond) (q1 : Int64) (q2 : Int64) (q3 : Int32) (q4 : Int32) (q5 : Int32) (q6 : Int64) (h0 : Heap) (n0 : Nat) (Z0 : n0 ≤ h0.size) :
    MetFree l x (head1 (Jvm.Cond.code x code maxLocals ret :: ws) room_1) (fun aa U => aa = #[(.long q1), (.long q2), (.int q3), (.int q4), (.int q5), (.long q6)] ∧ Z.Warmed39 U.vm ∧ U.heap = h0) (fun _ _ _ _ _ => True) (fun _ U o U' => ∃ v L, o = .returned v ∧ Q0 Z q1 q2 q3 q4 q5 q6 h0 n0 v U'.heap L ∧ FrameEnd U o U' L room_1.cells room_1.slots) := by
  refine own_met pf0 ?_
  intro p e s m below meth c T0 hx hby hml hown hret hlk hnm hZ X0 e0
  have N0 := Fr.nil n0
  have r_q1 := rng64 q1
  have r_q2 := rng64 q2
  have r_q3 := rng32 q3
  have r_q4 := rng32 q4
  have r_q5 := rng32 q5
  have r_q6 := rng64 q6
  rw [ef0]
  refine own_go (mkF m 1 #[.val (.long q1), .second, .val (.long q2), .second, .val (.int q3), .val (.int q4), .val (.int q5), .val (.long q6), .second, .unset, .unset, .unset, .unset, .unset, .unset, .unset, .unset, .unset, .unset, .unset, .unset, .unset, .unset, .unset] [(.int (1 : Int32))]) (fun t k => XS.iconst X0.here hx rfl (hb hby at_0) k) ?_
  refine own_go (mkF m 3 #[.val (.long q1), .second, .val (.long q2), .second, .val (.int q3), .val (.int q4), .val (.int q5), .val (.long q6), .second, .unset, .unset, .unset, .unset, .unset, .unset, .unset, .unset, .unset, .unset, .unset, .unset, .unset, .unset, .unset] [(.int q3), (.int (1 : Int32))]) (fun t k => XS.iload X0.here hx rfl (hb hby at_1) rfl k) ?_
  refine own_go (mkF m 5 #[.val (.long q1), .second, .val (.long q2), .second, .val (.int q3), .val (.int q4), .val (.int q5), .val (.long q6), .second, .unset, .unset, .unset, .unset, .unset, .unset, .unset, .unset, .unset, .unset, .unset, .unset, .unset, .unset, .unset] [(.int (2147483647 : Int32)), (.int q3), (.int (1 : Int32))]) (fun t k => X0.ldcInt hx hown (mvT hZ (hw _ (List.mem_of_getElem? (i := 0) rfl))) (g := (mkF m 3 #[.val (.long q1), .second, .val (.long q2), .second, .val (.int q3), .val (.int q4), .val (.int q5), .val (.long q6), .second, .unset, .unset, .unset, .unset, .unset, .unset, .unset, .unset, .unset, .unset, .unset, .unset, .unset, .unset, .unset] [(.int q3), (.int (1 : Int32))])) rfl (hb hby at_3) _ k) ?_
  refine own_go (mkF m 6 #[.val (.long q1), .second, .val (.long q2), .second, .val (.int q3), .val (.int q4), .val (.int q5), .val (.long q6), .second, .unset, .unset, .unset, .unset, .unset, .unset, .unset, .unset, .unset, .unset, .unset, .unset, .unset, .unset, .unset] [(.int (q3 &&& (2147483647 : Int32))), (.int (1 : Int32))]) (fun t k => XS.iand X0.here hx rfl (hb hby at_5) rfl k) ?_
  generalize hv5 : (q3 &&& (2147483647 : Int32)) = v5
  have f5 : v5.toInt = q3.toInt % 2147483648 := by rw [← hv5]; exact c_mask q3 (2147483647 : Int32) 31 (by decide) (by decide)
  have r5 := rng32 v5
  have lt6_0 : (1 : Int32).toInt = 1 := rfl
  refine own_callS X0 hx hZ (y := (⟨"java/lang/Math", "max", "(II)I"⟩ : MethodName)) hown (hw _ (List.mem_of_getElem? (i := 1) rfl)) (hw _ (List.mem_of_getElem? (i := 2) rfl)) (hw _ (List.mem_of_getElem? (i := 3) rfl)) (hw _ (List.mem_of_getElem? (i := 4) rfl)) (by decide) e0 (rmM l Z a0 hw [] (1 : Int32) v5 h0 n0 Z0) 0 (by decide) (by decide) (by decide) (by decide) (g := (mkF m 6 #[.val (.long q1), .second, .val (.long q2), .second, .val (.int q3), .val (.int q4), .val (.int q5), .val (.long q6), .second, .unset, .unset, .unset, .unset, .unset, .unset, .unset, .unset, .unset, .unset, .unset, .unset, .unset, .unset, .unset] [(.int v5), (.int (1 : Int32))])) rfl (by rw [hml]; rfl) [(.int (1 : Int32)), (.int v5)] [] (lenOf pd0_0 rfl) rfl rfl (by show 2 * 0 + _ ≤ _; exact Nat.le_of_eq rfl) (hb hby at_6) ?_
  intro rv6 T6 h6 L6 X6 e6 hQ6
  obtain ⟨⟨r6, rfl, hr6⟩, NQ6, eq6⟩ := hQ6
  rw [eq6] at e6
  have rr6 := rng32 r6
  have N6 := Fr.app N0 NQ6
  show own_Ends p e below s room_1.cells room_1.slots (Q0 Z q1 q2 q3 q4 q5 q6 h0 n0) T6 (mkF m 9 #[.val (.long q1), .second, .val (.long q2), .second, .val (.int q3), .val (.int q4), .val (.int q5), .val (.long q6), .second, .unset, .unset, .unset, .unset, .unset, .unset, .unset, .unset, .unset, .unset, .unset, .unset, .unset, .unset, .unset] [(.int r6)])
  refine own_go (mkF m 11 #[.val (.long q1), .second, .val (.long q2), .second, .val (.int q3), .val (.int q4), .val (.int q5), .val (.long q6), .second, .val (.int r6), .unset, .unset, .unset, .unset, .unset, .unset, .unset, .unset, .unset, .unset, .unset, .unset, .unset, .unset] []) (fun t k => XS.istore X6.here hx rfl (hb hby at_9) rfl (l' := #[.val (.long q1), .second, .val (.long q2), .second, .val (.int q3), .val (.int q4), .val (.int q5), .val (.long q6), .second, .val (.int r6), .unset, .unset, .unset, .unset, .unset, .unset, .unset, .unset, .unset, .unset, .unset, .unset, .unset, .unset]) rfl k) ?_
  refine own_go (mkF m 13 #[.val (.long q1), .second, .val (.long q2), .second, .val (.int q3), .val (.int q4), .val (.int q5), .val (.long q6), .second, .val (.int r6), .unset, .unset, .unset, .unset, .unset, .unset, .unset, .unset, .unset, .unset, .unset, .unset, .unset, .unset] [(.int q4)]) (fun t k => XS.iload X6.here hx rfl (hb hby at_11) rfl k) ?_
  refine own_go (mkF m 15 #[.val (.long q1), .second, .val (.long q2), .second, .val (.int q3), .val (.int q4), .val (.int q5), .val (.long q6), .second, .val (.int r6), .unset, .unset, .unset, .unset, .unset, .unset, .unset, .unset, .unset, .unset, .unset, .unset, .unset, .unset] [(.int (2147483647 : Int32)), (.int q4)]) (fun t k => X6.ldcInt hx hown (mvT hZ (hw _ (List.mem_of_getElem? (i := 0) rfl))) (g := (mkF m 13 #[.val (.long q1), .second, .val (.long q2), .second, .val (.int q3), .val (.int q4), .val (.int q5), .val (.long q6), .second, .val (.int r6), .unset, .unset, .unset, .unset, .unset, .unset, .unset, .unset, .unset, .unset, .unset, .unset, .unset, .unset] [(.int q4)])) rfl (hb hby at_13) _ k) ?_
  refine own_go (mkF m 16 #[.val (.long q1), .second, .val (.long q2), .second, .val (.int q3), .val (.int q4), .val (.int q5), .val (.long q6), .second, .val (.int r6), .unset, .unset, .unset, .unset, .unset, .unset, .unset, .unset, .unset, .unset, .unset, .unset, .unset, .unset] [(.int (q4 &&& (2147483647 : Int32)))]) (fun t k => XS.iand X6.here hx rfl (hb hby at_15) rfl k) ?_
  generalize hv15 : (q4 &&& (2147483647 : Int32)) = v15
  have f15 : v15.toInt = q4.toInt % 2147483648 := by rw [← hv15]; exact c_mask q4 (2147483647 : Int32) 31 (by decide) (by decide)
  have r15 := rng32 v15
  refine own_go (mkF m 18 #[.val (.long q1), .second, .val (.long q2), .second, .val (.int q3), .val (.int q4), .val (.int q5), .val (.long q6), .second, .val (.int r6), .unset, .unset, .unset, .unset, .unset, .unset, .unset, .unset, .unset, .unset, .unset, .unset, .unset, .unset] [(.int r6), (.int v15)]) (fun t k => XS.iload X6.here hx rfl (hb hby at_16) rfl k) ?_
  refine own_go (mkF m 19 #[.val (.long q1), .second, .val (.long q2), .second, .val (.int q3), .val (.int q4), .val (.int q5), .val (.long q6), .second, .val (.int r6), .unset, .unset, .unset, .unset, .unset, .unset, .unset, .unset, .unset, .unset, .unset, .unset, .unset, .unset] [(.int (v15 % r6))]) (fun t k => Jvm.RoadKit.iremM X6 hx rfl (hb hby at_18) rfl (own_nz32 (by omega)) k) ?_
  generalize hv18 : (v15 % r6) = v18
  have f18 : 0 ≤ v15.toInt → 0 < r6.toInt → 0 ≤ v18.toInt ∧ v18.toInt < r6.toInt ∧ v18.toInt ≤ v15.toInt := by rw [← hv18]; exact own_iremV v15 r6
  have r18 := rng32 v18
  refine own_go (mkF m 21 #[.val (.long q1), .second, .val (.long q2), .second, .val (.int q3), .val (.int q4), .val (.int q5), .val (.long q6), .second, .val (.int r6), .val (.int v18), .unset, .unset, .unset, .unset, .unset, .unset, .unset, .unset, .unset, .unset, .unset, .unset, .unset] []) (fun t k => XS.istore X6.here hx rfl (hb hby at_19) rfl (l' := #[.val (.long q1), .second, .val (.long q2), .second, .val (.int q3), .val (.int q4), .val (.int q5), .val (.long q6), .second, .val (.int r6), .val (.int v18), .unset, .unset, .unset, .unset, .unset, .unset, .unset, .unset, .unset, .unset, .unset, .unset, .unset]) rfl k) ?_
  refine own_go (mkF m 23 #[.val (.long q1), .second, .val (.long q2), .second, .val (.int q3), .val (.int q4), .val (.int q5), .val (.long q6), .second, .val (.int r6), .val (.int v18), .unset, .unset, .unset, .unset, .unset, .unset, .unset, .unset, .unset, .unset, .unset, .unset, .unset] [(.int q5)]) (fun t k => XS.iload X6.here hx rfl (hb hby at_21) rfl k) ?_
  refine own_go (mkF m 25 #[.val (.long q1), .second, .val (.long q2), .second, .val (.int q3), .val (.int q4), .val (.int q5), .val (.long q6), .second, .val (.int r6), .val (.int v18), .unset, .unset, .unset, .unset, .unset, .unset, .unset, .unset, .unset, .unset, .unset, .unset, .unset] [(.int (2147483647 : Int32)), (.int q5)]) (fun t k => X6.ldcInt hx hown (mvT hZ (hw _ (List.mem_of_getElem? (i := 0) rfl))) (g := (mkF m 23 #[.val (.long q1), .second, .val (.long q2), .second, .val (.int q3), .val (.int q4), .val (.int q5), .val (.long q6), .second, .val (.int r6), .val (.int v18), .unset, .unset, .unset, .unset, .unset, .unset, .unset, .unset, .unset, .unset, .unset, .unset, .unset] [(.int q5)])) rfl (hb hby at_23) _ k) ?_
  refine own_go (mkF m 26 #[.val (.long q1), .second, .val (.long q2), .second, .val (.int q3), .val (.int q4), .val (.int q5), .val (.long q6), .second, .val (.int r6), .val (.int v18), .unset, .unset, .unset, .unset, .unset, .unset, .unset, .unset, .unset, .unset, .unset, .unset, .unset] [(.int (q5 &&& (2147483647 : Int32)))]) (fun t k => XS.iand X6.here hx rfl (hb hby at_25) rfl k) ?_
  generalize hv25 : (q5 &&& (2147483647 : Int32)) = v25
  have f25 : v25.toInt = q5.toInt % 2147483648 := by rw [← hv25]; exact c_mask q5 (2147483647 : Int32) 31 (by decide) (by decide)
  have r25 := rng32 v25
  refine own_go (mkF m 28 #[.val (.long q1), .second, .val (.long q2), .second, .val (.int q3), .val (.int q4), .val (.int q5), .val (.long q6), .second, .val (.int r6), .val (.int v18), .unset, .unset, .unset, .unset, .unset, .unset, .unset, .unset, .unset, .unset, .unset, .unset, .unset] [(.int r6), (.int v25)]) (fun t k => XS.iload X6.here hx rfl (hb hby at_26) rfl k) ?_
  refine own_go (mkF m 30 #[.val (.long q1), .second, .val (.long q2), .second, .val (.int q3), .val (.int q4), .val (.int q5), .val (.long q6), .second, .val (.int r6), .val (.int v18), .unset, .unset, .unset, .unset, .unset, .unset, .unset, .unset, .unset, .unset, .unset, .unset, .unset] [(.int v18), (.int r6), (.int v25)]) (fun t k => XS.iload X6.here hx rfl (hb hby at_28) rfl k) ?_
  refine own_go (mkF m 31 #[.val (.long q1), .second, .val (.long q2), .second, .val (.int q3), .val (.int q4), .val (.int q5), .val (.long q6), .second, .val (.int r6), .val (.int v18), .unset, .unset, .unset, .unset, .unset, .unset, .unset, .unset, .unset, .unset, .unset, .unset, .unset] [(.int (r6 - v18)), (.int v25)]) (fun t k => XS.isub X6.here hx rfl (hb hby at_30) rfl k) ?_
  generalize hv30 : (r6 - v18) = v30
  have f30 : (v30.toInt - (r6.toInt - v18.toInt)) % 4294967296 = 0 := by rw [← hv30]; exact c_isub r6 v18
  have r30 := rng32 v30
  refine own_go (mkF m 32 #[.val (.long q1), .second, .val (.long q2), .second, .val (.int q3), .val (.int q4), .val (.int q5), .val (.long q6), .second, .val (.int r6), .val (.int v18), .unset, .unset, .unset, .unset, .unset, .unset, .unset, .unset, .unset, .unset, .unset, .unset, .unset] [(.int (v25 % v30))]) (fun t k => Jvm.RoadKit.iremM X6 hx rfl (hb hby at_31) rfl (own_nz32 (by omega)) k) ?_
  generalize hv31 : (v25 % v30) = v31
  have f31 : 0 ≤ v25.toInt → 0 < v30.toInt → 0 ≤ v31.toInt ∧ v31.toInt < v30.toInt ∧ v31.toInt ≤ v25.toInt := by rw [← hv31]; exact own_iremV v25 v30
  have r31 := rng32 v31
  refine own_go (mkF m 34 #[.val (.long q1), .second, .val (.long q2), .second, .val (.int q3), .val (.int q4), .val (.int q5), .val (.long q6), .second, .val (.int r6), .val (.int v18), .val (.int v31), .unset, .unset, .unset, .unset, .unset, .unset, .unset, .unset, .unset, .unset, .unset, .unset] []) (fun t k => XS.istore X6.here hx rfl (hb hby at_32) rfl (l' := #[.val (.long q1), .second, .val (.long q2), .second, .val (.int q3), .val (.int q4), .val (.int q5), .val (.long q6), .second, .val (.int r6), .val (.int v18), .val (.int v31), .unset, .unset, .unset, .unset, .unset, .unset, .unset, .unset, .unset, .unset, .unset, .unset]) rfl k) ?_
  obtain ⟨T34, h34, X34, e34, E34, A34, D34, -, st34⟩ := newO X6 hx hZ hown (hw _ (List.mem_of_getElem? (i := 5) rfl)) (hw _ (List.mem_of_getElem? (i := 6) rfl)) (hw _ (List.mem_of_getElem? (i := 7) rfl)) e6 (g := (mkF m 34 #[.val (.long q1), .second, .val (.long q2), .second, .val (.int q3), .val (.int q4), .val (.int q5), .val (.long q6), .second, .val (.int r6), .val (.int v18), .val (.int v31), .unset, .unset, .unset, .unset, .unset, .unset, .unset, .unset, .unset, .unset, .unset, .unset] [])) rfl (hb hby at_34) (by decide) (by decide)
  obtain ⟨b34, g34⟩ : ∃ z, z = h0.size := ⟨_, rfl⟩
  rw [← g34] at A34 D34 st34
  have gb34 : n0 ≤ b34 := Nat.le_trans Z0 (Nat.le_of_eq g34.symm)
  have Z0_34 : n0 ≤ h34.size := Nat.le_trans Z0 E34.1
  have F_first_b34 : Fld Z h34 b34 "com/example/tallygate/tallygate/core/Sequences$Run" "first" "J" (.long (0 : Int64)) := D34 (Or.inr (hw _ (List.mem_of_getElem? (i := 20) rfl))) (ty := .long) (by decide)
  have F_step_b34 : Fld Z h34 b34 "com/example/tallygate/tallygate/core/Sequences$Run" "step" "J" (.long (0 : Int64)) := D34 (Or.inr (hw _ (List.mem_of_getElem? (i := 22) rfl))) (ty := .long) (by decide)
  have F_count_b34 : Fld Z h34 b34 "com/example/tallygate/tallygate/core/Sequences$Run" "count" "I" (.int (0 : Int32)) := D34 (Or.inr (hw _ (List.mem_of_getElem? (i := 24) rfl))) (ty := .int) (by decide)
  have F_timeMillis_b34 : Fld Z h34 b34 "com/example/tallygate/tallygate/core/Sequences$Run" "timeMillis" "J" (.long (0 : Int64)) := D34 (Or.inr (hw _ (List.mem_of_getElem? (i := 26) rfl))) (ty := .long) (by decide)
  refine own_go (T' := T34) (mkF m 37 #[.val (.long q1), .second, .val (.long q2), .second, .val (.int q3), .val (.int q4), .val (.int q5), .val (.long q6), .second, .val (.int r6), .val (.int v18), .val (.int v31), .unset, .unset, .unset, .unset, .unset, .unset, .unset, .unset, .unset, .unset, .unset, .unset] [(.ref b34)]) st34 ?_
  refine own_go (mkF m 38 #[.val (.long q1), .second, .val (.long q2), .second, .val (.int q3), .val (.int q4), .val (.int q5), .val (.long q6), .second, .val (.int r6), .val (.int v18), .val (.int v31), .unset, .unset, .unset, .unset, .unset, .unset, .unset, .unset, .unset, .unset, .unset, .unset] [(.ref b34), (.ref b34)]) (fun t k => XS.dup X34.here hx rfl (hb hby at_37) rfl rfl k) ?_
  refine own_go (mkF m 39 #[.val (.long q1), .second, .val (.long q2), .second, .val (.int q3), .val (.int q4), .val (.int q5), .val (.long q6), .second, .val (.int r6), .val (.int v18), .val (.int v31), .unset, .unset, .unset, .unset, .unset, .unset, .unset, .unset, .unset, .unset, .unset, .unset] [(.long q1), (.ref b34), (.ref b34)]) (fun t k => XS.lloadN X34.here hx rfl (hb hby at_38) rfl k) ?_
  refine own_go (mkF m 40 #[.val (.long q1), .second, .val (.long q2), .second, .val (.int q3), .val (.int q4), .val (.int q5), .val (.long q6), .second, .val (.int r6), .val (.int v18), .val (.int v31), .unset, .unset, .unset, .unset, .unset, .unset, .unset, .unset, .unset, .unset, .unset, .unset] [(.long q2), (.long q1), (.ref b34), (.ref b34)]) (fun t k => XS.lloadN X34.here hx rfl (hb hby at_39) rfl k) ?_
  refine own_go (mkF m 42 #[.val (.long q1), .second, .val (.long q2), .second, .val (.int q3), .val (.int q4), .val (.int q5), .val (.long q6), .second, .val (.int r6), .val (.int v18), .val (.int v31), .unset, .unset, .unset, .unset, .unset, .unset, .unset, .unset, .unset, .unset, .unset, .unset] [(.int r6), (.long q2), (.long q1), (.ref b34), (.ref b34)]) (fun t k => XS.iload X34.here hx rfl (hb hby at_40) rfl k) ?_
  refine own_go (mkF m 44 #[.val (.long q1), .second, .val (.long q2), .second, .val (.int q3), .val (.int q4), .val (.int q5), .val (.long q6), .second, .val (.int r6), .val (.int v18), .val (.int v31), .unset, .unset, .unset, .unset, .unset, .unset, .unset, .unset, .unset, .unset, .unset, .unset] [(.long q6), (.int r6), (.long q2), (.long q1), (.ref b34), (.ref b34)]) (fun t k => XS.lload X34.here hx rfl (hb hby at_42) rfl k) ?_
  refine own_callI X34 hx hZ (y := (⟨"com/example/tallygate/tallygate/core/Sequences$Run", "<init>", "(JJIJ)V"⟩ : MethodName)) hown rfl (hw _ (List.mem_of_getElem? (i := 8) rfl)) (hw _ (List.mem_of_getElem? (i := 9) rfl)) (hw _ (List.mem_of_getElem? (i := 7) rfl)) (hw _ (List.mem_of_getElem? (i := 10) rfl)) (by decide) e34 (rm1 l Z a0 hw [] b34 q1 q2 r6 q6 h34 n0 Z0_34 A34 F_first_b34 F_step_b34 F_count_b34 F_timeMillis_b34 gb34 ) 1 (by decide) (by decide) (by decide) (by decide) (g := (mkF m 44 #[.val (.long q1), .second, .val (.long q2), .second, .val (.int q3), .val (.int q4), .val (.int q5), .val (.long q6), .second, .val (.int r6), .val (.int v18), .val (.int v31), .unset, .unset, .unset, .unset, .unset, .unset, .unset, .unset, .unset, .unset, .unset, .unset] [(.long q6), (.int r6), (.long q2), (.long q1), (.ref b34), (.ref b34)])) rfl (by rw [hml]; rfl) b34 [(.long q1), (.long q2), (.int r6), (.long q6)] [(.ref b34)] (lenOf pd0_1 rfl) rfl rfl (by show 2 * 0 + _ ≤ _; exact Nat.le_of_eq rfl) (hb hby at_44) ?_
  intro rv44 T44 h44 L44 X44 e44 hQ44
  obtain ⟨rfl, NQ44, KQ44, EQ44, F_first_b34_44, F_step_b34_44, F_count_b34_44, F_timeMillis_b34_44⟩ := hQ44
  have Z0_44 : n0 ≤ h44.size := Nat.le_trans Z0_34 KQ44.1
  have A34_44 := A34.keep KQ44
  have N44 := Fr.app N6 NQ44
  show own_Ends p e below s room_1.cells room_1.slots (Q0 Z q1 q2 q3 q4 q5 q6 h0 n0) T44 (mkF m 47 #[.val (.long q1), .second, .val (.long q2), .second, .val (.int q3), .val (.int q4), .val (.int q5), .val (.long q6), .second, .val (.int r6), .val (.int v18), .val (.int v31), .unset, .unset, .unset, .unset, .unset, .unset, .unset, .unset, .unset, .unset, .unset, .unset] [(.ref b34)])
  refine own_go (mkF m 49 #[.val (.long q1), .second, .val (.long q2), .second, .val (.int q3), .val (.int q4), .val (.int q5), .val (.long q6), .second, .val (.int r6), .val (.int v18), .val (.int v31), .val (.ref b34), .unset, .unset, .unset, .unset, .unset, .unset, .unset, .unset, .unset, .unset, .unset] []) (fun t k => XS.astore X44.here hx rfl (hb hby at_47) rfl rfl (l' := #[.val (.long q1), .second, .val (.long q2), .second, .val (.int q3), .val (.int q4), .val (.int q5), .val (.long q6), .second, .val (.int r6), .val (.int v18), .val (.int v31), .val (.ref b34), .unset, .unset, .unset, .unset, .unset, .unset, .unset, .unset, .unset, .unset, .unset]) rfl k) ?_
  refine own_go (mkF m 51 #[.val (.long q1), .second, .val (.long q2), .second, .val (.int q3), .val (.int q4), .val (.int q5), .val (.long q6), .second, .val (.int r6), .val (.int v18), .val (.int v31), .val (.ref b34), .unset, .unset, .unset, .unset, .unset, .unset, .unset, .unset, .unset, .unset, .unset] [(.ref b34)]) (fun t k => XS.aload X44.here hx rfl (hb hby at_49) rfl rfl k) ?_
  refine own_go (mkF m 52 #[.val (.long q1), .second, .val (.long q2), .second, .val (.int q3), .val (.int q4), .val (.int q5), .val (.long q6), .second, .val (.int r6), .val (.int v18), .val (.int v31), .val (.ref b34), .unset, .unset, .unset, .unset, .unset, .unset, .unset, .unset, .unset, .unset, .unset] [(.int (0 : Int32)), (.ref b34)]) (fun t k => XS.iconst X44.here hx rfl (hb hby at_51) k) ?_
  have lt52_0 : (0 : Int32).toInt = 0 := rfl
  refine own_callV X44 hx hZ (y := (⟨"com/example/tallygate/tallygate/core/Sequences$Run", "number", "(I)J"⟩ : MethodName)) hown (hw _ (List.mem_of_getElem? (i := 27) rfl)) (hw _ (List.mem_of_getElem? (i := 28) rfl)) (hw _ (List.mem_of_getElem? (i := 30) rfl)) (hw _ (List.mem_of_getElem? (i := 29) rfl)) (hw _ (List.mem_of_getElem? (i := 7) rfl)) (hw _ (List.mem_of_getElem? (i := 31) rfl)) (by decide) e44 b34 A34_44 (rm2 l Z a0 hw [] b34 (0 : Int32) q1 q2 h44 n0 Z0_44 F_first_b34_44 F_step_b34_44) 0 (by decide) (by decide) (by decide) (by decide) (g := (mkF m 52 #[.val (.long q1), .second, .val (.long q2), .second, .val (.int q3), .val (.int q4), .val (.int q5), .val (.long q6), .second, .val (.int r6), .val (.int v18), .val (.int v31), .val (.ref b34), .unset, .unset, .unset, .unset, .unset, .unset, .unset, .unset, .unset, .unset, .unset] [(.int (0 : Int32)), (.ref b34)])) rfl (by rw [hml]; rfl) [(.int (0 : Int32))] [] (lenOf pd0_2 rfl) rfl rfl (by show 2 * 0 + _ ≤ _; exact Nat.le_of_eq rfl) (hb hby at_52) ?_
  intro rv52 T52 h52 L52 X52 e52 hQ52
  obtain ⟨⟨r52_, rfl, hr52⟩, NQ52, eq52⟩ := hQ52
  rw [eq52] at e52
  have rr52 := rng64 r52_
  have N52 := Fr.app N44 NQ52
  show own_Ends p e below s room_1.cells room_1.slots (Q0 Z q1 q2 q3 q4 q5 q6 h0 n0) T52 (mkF m 55 #[.val (.long q1), .second, .val (.long q2), .second, .val (.int q3), .val (.int q4), .val (.int q5), .val (.long q6), .second, .val (.int r6), .val (.int v18), .val (.int v31), .val (.ref b34), .unset, .unset, .unset, .unset, .unset, .unset, .unset, .unset, .unset, .unset, .unset] [(.long r52_)])
  refine own_go (mkF m 57 #[.val (.long q1), .second, .val (.long q2), .second, .val (.int q3), .val (.int q4), .val (.int q5), .val (.long q6), .second, .val (.int r6), .val (.int v18), .val (.int v31), .val (.ref b34), .val (.long r52_), .second, .unset, .unset, .unset, .unset, .unset, .unset, .unset, .unset, .unset] []) (fun t k => XS.lstore X52.here hx rfl (hb hby at_55) rfl (l' := #[.val (.long q1), .second, .val (.long q2), .second, .val (.int q3), .val (.int q4), .val (.int q5), .val (.long q6), .second, .val (.int r6), .val (.int v18), .val (.int v31), .val (.ref b34), .val (.long r52_), .second, .unset, .unset, .unset, .unset, .unset, .unset, .unset, .unset, .unset]) rfl k) ?_
  refine own_go (mkF m 59 #[.val (.long q1), .second, .val (.long q2), .second, .val (.int q3), .val (.int q4), .val (.int q5), .val (.long q6), .second, .val (.int r6), .val (.int v18), .val (.int v31), .val (.ref b34), .val (.long r52_), .second, .unset, .unset, .unset, .unset, .unset, .unset, .unset, .unset, .unset] [(.ref b34)]) (fun t k => XS.aload X52.here hx rfl (hb hby at_57) rfl rfl k) ?_
  refine own_go (mkF m 61 #[.val (.long q1), .second, .val (.long q2), .second, .val (.int q3), .val (.int q4), .val (.int q5), .val (.long q6), .second, .val (.int r6), .val (.int v18), .val (.int v31), .val (.ref b34), .val (.long r52_), .second, .unset, .unset, .unset, .unset, .unset, .unset, .unset, .unset, .unset] [(.int v18), (.ref b34)]) (fun t k => XS.iload X52.here hx rfl (hb hby at_59) rfl k) ?_
  refine own_callV X52 hx hZ (y := (⟨"com/example/tallygate/tallygate/core/Sequences$Run", "number", "(I)J"⟩ : MethodName)) hown (hw _ (List.mem_of_getElem? (i := 27) rfl)) (hw _ (List.mem_of_getElem? (i := 28) rfl)) (hw _ (List.mem_of_getElem? (i := 30) rfl)) (hw _ (List.mem_of_getElem? (i := 29) rfl)) (hw _ (List.mem_of_getElem? (i := 7) rfl)) (hw _ (List.mem_of_getElem? (i := 31) rfl)) (by decide) e52 b34 A34_44 (rm2 l Z a0 hw [] b34 v18 q1 q2 h44 n0 Z0_44 F_first_b34_44 F_step_b34_44) 0 (by decide) (by decide) (by decide) (by decide) (g := (mkF m 61 #[.val (.long q1), .second, .val (.long q2), .second, .val (.int q3), .val (.int q4), .val (.int q5), .val (.long q6), .second, .val (.int r6), .val (.int v18), .val (.int v31), .val (.ref b34), .val (.long r52_), .second, .unset, .unset, .unset, .unset, .unset, .unset, .unset, .unset, .unset] [(.int v18), (.ref b34)])) rfl (by rw [hml]; rfl) [(.int v18)] [] (lenOf pd0_2 rfl) rfl rfl (by show 2 * 0 + _ ≤ _; exact Nat.le_of_eq rfl) (hb hby at_61) ?_
  intro rv61 T61 h61 L61 X61 e61 hQ61
  obtain ⟨⟨r61_, rfl, hr61⟩, NQ61, eq61⟩ := hQ61
  rw [eq61] at e61
  have rr61 := rng64 r61_
  have N61 := Fr.app N52 NQ61
  show own_Ends p e below s room_1.cells room_1.slots (Q0 Z q1 q2 q3 q4 q5 q6 h0 n0) T61 (mkF m 64 #[.val (.long q1), .second, .val (.long q2), .second, .val (.int q3), .val (.int q4), .val (.int q5), .val (.long q6), .second, .val (.int r6), .val (.int v18), .val (.int v31), .val (.ref b34), .val (.long r52_), .second, .unset, .unset, .unset, .unset, .unset, .unset, .unset, .unset, .unset] [(.long r61_)])
  refine own_go (mkF m 66 #[.val (.long q1), .second, .val (.long q2), .second, .val (.int q3), .val (.int q4), .val (.int q5), .val (.long q6), .second, .val (.int r6), .val (.int v18), .val (.int v31), .val (.ref b34), .val (.long r52_), .second, .val (.long r61_), .second, .unset, .unset, .unset, .unset, .unset, .unset, .unset] []) (fun t k => XS.lstore X61.here hx rfl (hb hby at_64) rfl (l' := #[.val (.long q1), .second, .val (.long q2), .second, .val (.int q3), .val (.int q4), .val (.int q5), .val (.long q6), .second, .val (.int r6), .val (.int v18), .val (.int v31), .val (.ref b34), .val (.long r52_), .second, .val (.long r61_), .second, .unset, .unset, .unset, .unset, .unset, .unset, .unset]) rfl k) ?_
  refine own_go (mkF m 68 #[.val (.long q1), .second, .val (.long q2), .second, .val (.int q3), .val (.int q4), .val (.int q5), .val (.long q6), .second, .val (.int r6), .val (.int v18), .val (.int v31), .val (.ref b34), .val (.long r52_), .second, .val (.long r61_), .second, .unset, .unset, .unset, .unset, .unset, .unset, .unset] [(.ref b34)]) (fun t k => XS.aload X61.here hx rfl (hb hby at_66) rfl rfl k) ?_
  refine own_go (mkF m 70 #[.val (.long q1), .second, .val (.long q2), .second, .val (.int q3), .val (.int q4), .val (.int q5), .val (.long q6), .second, .val (.int r6), .val (.int v18), .val (.int v31), .val (.ref b34), .val (.long r52_), .second, .val (.long r61_), .second, .unset, .unset, .unset, .unset, .unset, .unset, .unset] [(.int v31), (.ref b34)]) (fun t k => XS.iload X61.here hx rfl (hb hby at_68) rfl k) ?_
  refine own_callV X61 hx hZ (y := (⟨"com/example/tallygate/tallygate/core/Sequences$Run", "number", "(I)J"⟩ : MethodName)) hown (hw _ (List.mem_of_getElem? (i := 27) rfl)) (hw _ (List.mem_of_getElem? (i := 28) rfl)) (hw _ (List.mem_of_getElem? (i := 30) rfl)) (hw _ (List.mem_of_getElem? (i := 29) rfl)) (hw _ (List.mem_of_getElem? (i := 7) rfl)) (hw _ (List.mem_of_getElem? (i := 31) rfl)) (by decide) e61 b34 A34_44 (rm2 l Z a0 hw [] b34 v31 q1 q2 h44 n0 Z0_44 F_first_b34_44 F_step_b34_44) 0 (by decide) (by decide) (by decide) (by decide) (g := (mkF m 70 #[.val (.long q1), .second, .val (.long q2), .second, .val (.int q3), .val (.int q4), .val (.int q5), .val (.long q6), .second, .val (.int r6), .val (.int v18), .val (.int v31), .val (.ref b34), .val (.long r52_), .second, .val (.long r61_), .second, .unset, .unset, .unset, .unset, .unset, .unset, .unset] [(.int v31), (.ref b34)])) rfl (by rw [hml]; rfl) [(.int v31)] [] (lenOf pd0_2 rfl) rfl rfl (by show 2 * 0 + _ ≤ _; exact Nat.le_of_eq rfl) (hb hby at_70) ?_
  intro rv70 T70 h70 L70 X70 e70 hQ70
  obtain ⟨⟨r70_, rfl, hr70⟩, NQ70, eq70⟩ := hQ70
  rw [eq70] at e70
  have rr70 := rng64 r70_
  have N70 := Fr.app N61 NQ70
  show own_Ends p e below s room_1.cells room_1.slots (Q0 Z q1 q2 q3 q4 q5 q6 h0 n0) T70 (mkF m 73 #[.val (.long q1), .second, .val (.long q2), .second, .val (.int q3), .val (.int q4), .val (.int q5), .val (.long q6), .second, .val (.int r6), .val (.int v18), .val (.int v31), .val (.ref b34), .val (.long r52_), .second, .val (.long r61_), .second, .unset, .unset, .unset, .unset, .unset, .unset, .unset] [(.long r70_)])
  refine own_go (mkF m 75 #[.val (.long q1), .second, .val (.long q2), .second, .val (.int q3), .val (.int q4), .val (.int q5), .val (.long q6), .second, .val (.int r6), .val (.int v18), .val (.int v31), .val (.ref b34), .val (.long r52_), .second, .val (.long r61_), .second, .val (.long r70_), .second, .unset, .unset, .unset, .unset, .unset] []) (fun t k => XS.lstore X70.here hx rfl (hb hby at_73) rfl (l' := #[.val (.long q1), .second, .val (.long q2), .second, .val (.int q3), .val (.int q4), .val (.int q5), .val (.long q6), .second, .val (.int r6), .val (.int v18), .val (.int v31), .val (.ref b34), .val (.long r52_), .second, .val (.long r61_), .second, .val (.long r70_), .second, .unset, .unset, .unset, .unset, .unset]) rfl k) ?_
  refine own_go (mkF m 77 #[.val (.long q1), .second, .val (.long q2), .second, .val (.int q3), .val (.int q4), .val (.int q5), .val (.long q6), .second, .val (.int r6), .val (.int v18), .val (.int v31), .val (.ref b34), .val (.long r52_), .second, .val (.long r61_), .second, .val (.long r70_), .second, .unset, .unset, .unset, .unset, .unset] [(.ref b34)]) (fun t k => XS.aload X70.here hx rfl (hb hby at_75) rfl rfl k) ?_
  refine own_go (mkF m 79 #[.val (.long q1), .second, .val (.long q2), .second, .val (.int q3), .val (.int q4), .val (.int q5), .val (.long q6), .second, .val (.int r6), .val (.int v18), .val (.int v31), .val (.ref b34), .val (.long r52_), .second, .val (.long r61_), .second, .val (.long r70_), .second, .unset, .unset, .unset, .unset, .unset] [(.int v18), (.ref b34)]) (fun t k => XS.iload X70.here hx rfl (hb hby at_77) rfl k) ?_
  refine own_go (mkF m 81 #[.val (.long q1), .second, .val (.long q2), .second, .val (.int q3), .val (.int q4), .val (.int q5), .val (.long q6), .second, .val (.int r6), .val (.int v18), .val (.int v31), .val (.ref b34), .val (.long r52_), .second, .val (.long r61_), .second, .val (.long r70_), .second, .unset, .unset, .unset, .unset, .unset] [(.int v31), (.int v18), (.ref b34)]) (fun t k => XS.iload X70.here hx rfl (hb hby at_79) rfl k) ?_
  refine own_go (mkF m 82 #[.val (.long q1), .second, .val (.long q2), .second, .val (.int q3), .val (.int q4), .val (.int q5), .val (.long q6), .second, .val (.int r6), .val (.int v18), .val (.int v31), .val (.ref b34), .val (.long r52_), .second, .val (.long r61_), .second, .val (.long r70_), .second, .unset, .unset, .unset, .unset, .unset] [(.int (v18 + v31)), (.ref b34)]) (fun t k => XS.iadd X70.here hx rfl (hb hby at_81) rfl k) ?_
  generalize hv81 : (v18 + v31) = v81
  have f81 : (v81.toInt - (v18.toInt + v31.toInt)) % 4294967296 = 0 := by rw [← hv81]; exact c_iadd v18 v31
  have r81 := rng32 v81
  have k81 : v81.toInt = v18.toInt + v31.toInt := by omega
  refine own_callV X70 hx hZ (y := (⟨"com/example/tallygate/tallygate/core/Sequences$Run", "number", "(I)J"⟩ : MethodName)) hown (hw _ (List.mem_of_getElem? (i := 27) rfl)) (hw _ (List.mem_of_getElem? (i := 28) rfl)) (hw _ (List.mem_of_getElem? (i := 30) rfl)) (hw _ (List.mem_of_getElem? (i := 29) rfl)) (hw _ (List.mem_of_getElem? (i := 7) rfl)) (hw _ (List.mem_of_getElem? (i := 31) rfl)) (by decide) e70 b34 A34_44 (rm2 l Z a0 hw [] b34 v81 q1 q2 h44 n0 Z0_44 F_first_b34_44 F_step_b34_44) 0 (by decide) (by decide) (by decide) (by decide) (g := (mkF m 82 #[.val (.long q1), .second, .val (.long q2), .second, .val (.int q3), .val (.int q4), .val (.int q5), .val (.long q6), .second, .val (.int r6), .val (.int v18), .val (.int v31), .val (.ref b34), .val (.long r52_), .second, .val (.long r61_), .second, .val (.long r70_), .second, .unset, .unset, .unset, .unset, .unset] [(.int v81), (.ref b34)])) rfl (by rw [hml]; rfl) [(.int v81)] [] (lenOf pd0_2 rfl) rfl rfl (by show 2 * 0 + _ ≤ _; exact Nat.le_of_eq rfl) (hb hby at_82) ?_
  intro rv82 T82 h82 L82 X82 e82 hQ82
  obtain ⟨⟨r82_, rfl, hr82⟩, NQ82, eq82⟩ := hQ82
  rw [eq82] at e82
  have rr82 := rng64 r82_
  have N82 := Fr.app N70 NQ82
  show own_Ends p e below s room_1.cells room_1.slots (Q0 Z q1 q2 q3 q4 q5 q6 h0 n0) T82 (mkF m 85 #[.val (.long q1), .second, .val (.long q2), .second, .val (.int q3), .val (.int q4), .val (.int q5), .val (.long q6), .second, .val (.int r6), .val (.int v18), .val (.int v31), .val (.ref b34), .val (.long r52_), .second, .val (.long r61_), .second, .val (.long r70_), .second, .unset, .unset, .unset, .unset, .unset] [(.long r82_)])
  refine own_go (mkF m 87 #[.val (.long q1), .second, .val (.long q2), .second, .val (.int q3), .val (.int q4), .val (.int q5), .val (.long q6), .second, .val (.int r6), .val (.int v18), .val (.int v31), .val (.ref b34), .val (.long r52_), .second, .val (.long r61_), .second, .val (.long r70_), .second, .val (.long r82_), .second, .unset, .unset, .unset] []) (fun t k => XS.lstore X82.here hx rfl (hb hby at_85) rfl (l' := #[.val (.long q1), .second, .val (.long q2), .second, .val (.int q3), .val (.int q4), .val (.int q5), .val (.long q6), .second, .val (.int r6), .val (.int v18), .val (.int v31), .val (.ref b34), .val (.long r52_), .second, .val (.long r61_), .second, .val (.long r70_), .second, .val (.long r82_), .second, .unset, .unset, .unset]) rfl k) ?_
  refine own_go (mkF m 89 #[.val (.long q1), .second, .val (.long q2), .second, .val (.int q3), .val (.int q4), .val (.int q5), .val (.long q6), .second, .val (.int r6), .val (.int v18), .val (.int v31), .val (.ref b34), .val (.long r52_), .second, .val (.long r61_), .second, .val (.long r70_), .second, .val (.long r82_), .second, .unset, .unset, .unset] [(.long r52_)]) (fun t k => XS.lload X82.here hx rfl (hb hby at_87) rfl k) ?_
  refine own_go (mkF m 90 #[.val (.long q1), .second, .val (.long q2), .second, .val (.int q3), .val (.int q4), .val (.int q5), .val (.long q6), .second, .val (.int r6), .val (.int v18), .val (.int v31), .val (.ref b34), .val (.long r52_), .second, .val (.long r61_), .second, .val (.long r70_), .second, .val (.long r82_), .second, .unset, .unset, .unset] [(.long q1), (.long r52_)]) (fun t k => XS.lloadN X82.here hx rfl (hb hby at_89) rfl k) ?_
  refine own_go (mkF m 91 #[.val (.long q1), .second, .val (.long q2), .second, .val (.int q3), .val (.int q4), .val (.int q5), .val (.long q6), .second, .val (.int r6), .val (.int v18), .val (.int v31), .val (.ref b34), .val (.long r52_), .second, .val (.long r61_), .second, .val (.long r70_), .second, .val (.long r82_), .second, .unset, .unset, .unset] [(.int (lcmpW r52_ q1))]) (fun t k => XS.lcmp X82.here hx rfl (hb hby at_90) rfl k) ?_
  have c91 : r52_.toInt = q1.toInt := own_n0 hr52
  refine own_go (mkF m 94 #[.val (.long q1), .second, .val (.long q2), .second, .val (.int q3), .val (.int q4), .val (.int q5), .val (.long q6), .second, .val (.int r6), .val (.int v18), .val (.int v31), .val (.ref b34), .val (.long r52_), .second, .val (.long r61_), .second, .val (.long r70_), .second, .val (.long r82_), .second, .unset, .unset, .unset] []) (fun t k => XS.ifNo X82.here hx rfl (hb hby at_91) rfl (own_lcF (cd := .ne) (fun q => q c91)) k) ?_
  refine own_go (mkF m 95 #[.val (.long q1), .second, .val (.long q2), .second, .val (.int q3), .val (.int q4), .val (.int q5), .val (.long q6), .second, .val (.int r6), .val (.int v18), .val (.int v31), .val (.ref b34), .val (.long r52_), .second, .val (.long r61_), .second, .val (.long r70_), .second, .val (.long r82_), .second, .unset, .unset, .unset] [(.int (1 : Int32))]) (fun t k => XS.iconst X82.here hx rfl (hb hby at_94) k) ?_
  refine own_go (mkF m 99 #[.val (.long q1), .second, .val (.long q2), .second, .val (.int q3), .val (.int q4), .val (.int q5), .val (.long q6), .second, .val (.int r6), .val (.int v18), .val (.int v31), .val (.ref b34), .val (.long r52_), .second, .val (.long r61_), .second, .val (.long r70_), .second, .val (.long r82_), .second, .unset, .unset, .unset] [(.int (1 : Int32))]) (fun t k => XS.goto X82.here hx rfl (pc0 := 95) (pc' := 99) rfl (hb hby at_95) (by decide) (by decide) k) ?_
  refine own_go (mkF m 101 #[.val (.long q1), .second, .val (.long q2), .second, .val (.int q3), .val (.int q4), .val (.int q5), .val (.long q6), .second, .val (.int r6), .val (.int v18), .val (.int v31), .val (.ref b34), .val (.long r52_), .second, .val (.long r61_), .second, .val (.long r70_), .second, .val (.long r82_), .second, .val (.int (1 : Int32)), .unset, .unset] []) (fun t k => XS.istore X82.here hx rfl (hb hby at_99) rfl (l' := #[.val (.long q1), .second, .val (.long q2), .second, .val (.int q3), .val (.int q4), .val (.int q5), .val (.long q6), .second, .val (.int r6), .val (.int v18), .val (.int v31), .val (.ref b34), .val (.long r52_), .second, .val (.long r61_), .second, .val (.long r70_), .second, .val (.long r82_), .second, .val (.int (1 : Int32)), .unset, .unset]) rfl k) ?_
  refine own_go (mkF m 103 #[.val (.long q1), .second, .val (.long q2), .second, .val (.int q3), .val (.int q4), .val (.int q5), .val (.long q6), .second, .val (.int r6), .val (.int v18), .val (.int v31), .val (.ref b34), .val (.long r52_), .second, .val (.long r61_), .second, .val (.long r70_), .second, .val (.long r82_), .second, .val (.int (1 : Int32)), .unset, .unset] [(.int (1 : Int32))]) (fun t k => XS.iload X82.here hx rfl (hb hby at_101) rfl k) ?_
  refine own_go (mkF m 106 #[.val (.long q1), .second, .val (.long q2), .second, .val (.int q3), .val (.int q4), .val (.int q5), .val (.long q6), .second, .val (.int r6), .val (.int v18), .val (.int v31), .val (.ref b34), .val (.long r52_), .second, .val (.long r61_), .second, .val (.long r70_), .second, .val (.long r82_), .second, .val (.int (1 : Int32)), .unset, .unset] []) (fun t k => XS.ifNo X82.here hx rfl (hb hby at_103) rfl (by decide) k) ?_
  refine own_go (mkF m 108 #[.val (.long q1), .second, .val (.long q2), .second, .val (.int q3), .val (.int q4), .val (.int q5), .val (.long q6), .second, .val (.int r6), .val (.int v18), .val (.int v31), .val (.ref b34), .val (.long r52_), .second, .val (.long r61_), .second, .val (.long r70_), .second, .val (.long r82_), .second, .val (.int (1 : Int32)), .unset, .unset] [(.long r82_)]) (fun t k => XS.lload X82.here hx rfl (hb hby at_106) rfl k) ?_
  refine own_go (mkF m 109 #[.val (.long q1), .second, .val (.long q2), .second, .val (.int q3), .val (.int q4), .val (.int q5), .val (.long q6), .second, .val (.int r6), .val (.int v18), .val (.int v31), .val (.ref b34), .val (.long r52_), .second, .val (.long r61_), .second, .val (.long r70_), .second, .val (.long r82_), .second, .val (.int (1 : Int32)), .unset, .unset] [(.long q1), (.long r82_)]) (fun t k => XS.lloadN X82.here hx rfl (hb hby at_108) rfl k) ?_
  refine own_go (mkF m 110 #[.val (.long q1), .second, .val (.long q2), .second, .val (.int q3), .val (.int q4), .val (.int q5), .val (.long q6), .second, .val (.int r6), .val (.int v18), .val (.int v31), .val (.ref b34), .val (.long r52_), .second, .val (.long r61_), .second, .val (.long r70_), .second, .val (.long r82_), .second, .val (.int (1 : Int32)), .unset, .unset] [(.long (r82_ - q1))]) (fun t k => XS.lsub X82.here hx rfl (hb hby at_109) rfl k) ?_
  generalize hv109 : (r82_ - q1) = v109
  refine own_go (mkF m 112 #[.val (.long q1), .second, .val (.long q2), .second, .val (.int q3), .val (.int q4), .val (.int q5), .val (.long q6), .second, .val (.int r6), .val (.int v18), .val (.int v31), .val (.ref b34), .val (.long r52_), .second, .val (.long r61_), .second, .val (.long r70_), .second, .val (.long r82_), .second, .val (.int (1 : Int32)), .unset, .unset] [(.long r61_), (.long v109)]) (fun t k => XS.lload X82.here hx rfl (hb hby at_110) rfl k) ?_
  refine own_go (mkF m 113 #[.val (.long q1), .second, .val (.long q2), .second, .val (.int q3), .val (.int q4), .val (.int q5), .val (.long q6), .second, .val (.int r6), .val (.int v18), .val (.int v31), .val (.ref b34), .val (.long r52_), .second, .val (.long r61_), .second, .val (.long r70_), .second, .val (.long r82_), .second, .val (.int (1 : Int32)), .unset, .unset] [(.long q1), (.long r61_), (.long v109)]) (fun t k => XS.lloadN X82.here hx rfl (hb hby at_112) rfl k) ?_
  refine own_go (mkF m 114 #[.val (.long q1), .second, .val (.long q2), .second, .val (.int q3), .val (.int q4), .val (.int q5), .val (.long q6), .second, .val (.int r6), .val (.int v18), .val (.int v31), .val (.ref b34), .val (.long r52_), .second, .val (.long r61_), .second, .val (.long r70_), .second, .val (.long r82_), .second, .val (.int (1 : Int32)), .unset, .unset] [(.long (r61_ - q1)), (.long v109)]) (fun t k => XS.lsub X82.here hx rfl (hb hby at_113) rfl k) ?_
  generalize hv113 : (r61_ - q1) = v113
  refine own_go (mkF m 116 #[.val (.long q1), .second, .val (.long q2), .second, .val (.int q3), .val (.int q4), .val (.int q5), .val (.long q6), .second, .val (.int r6), .val (.int v18), .val (.int v31), .val (.ref b34), .val (.long r52_), .second, .val (.long r61_), .second, .val (.long r70_), .second, .val (.long r82_), .second, .val (.int (1 : Int32)), .unset, .unset] [(.long r70_), (.long v113), (.long v109)]) (fun t k => XS.lload X82.here hx rfl (hb hby at_114) rfl k) ?_
  refine own_go (mkF m 117 #[.val (.long q1), .second, .val (.long q2), .second, .val (.int q3), .val (.int q4), .val (.int q5), .val (.long q6), .second, .val (.int r6), .val (.int v18), .val (.int v31), .val (.ref b34), .val (.long r52_), .second, .val (.long r61_), .second, .val (.long r70_), .second, .val (.long r82_), .second, .val (.int (1 : Int32)), .unset, .unset] [(.long q1), (.long r70_), (.long v113), (.long v109)]) (fun t k => XS.lloadN X82.here hx rfl (hb hby at_116) rfl k) ?_
  refine own_go (mkF m 118 #[.val (.long q1), .second, .val (.long q2), .second, .val (.int q3), .val (.int q4), .val (.int q5), .val (.long q6), .second, .val (.int r6), .val (.int v18), .val (.int v31), .val (.ref b34), .val (.long r52_), .second, .val (.long r61_), .second, .val (.long r70_), .second, .val (.long r82_), .second, .val (.int (1 : Int32)), .unset, .unset] [(.long (r70_ - q1)), (.long v113), (.long v109)]) (fun t k => XS.lsub X82.here hx rfl (hb hby at_117) rfl k) ?_
  generalize hv117 : (r70_ - q1) = v117
  refine own_go (mkF m 119 #[.val (.long q1), .second, .val (.long q2), .second, .val (.int q3), .val (.int q4), .val (.int q5), .val (.long q6), .second, .val (.int r6), .val (.int v18), .val (.int v31), .val (.ref b34), .val (.long r52_), .second, .val (.long r61_), .second, .val (.long r70_), .second, .val (.long r82_), .second, .val (.int (1 : Int32)), .unset, .unset] [(.long (v113 + v117)), (.long v109)]) (fun t k => XS.ladd X82.here hx rfl (hb hby at_118) rfl k) ?_
  generalize hv118 : (v113 + v117) = v118
  refine own_go (mkF m 120 #[.val (.long q1), .second, .val (.long q2), .second, .val (.int q3), .val (.int q4), .val (.int q5), .val (.long q6), .second, .val (.int r6), .val (.int v18), .val (.int v31), .val (.ref b34), .val (.long r52_), .second, .val (.long r61_), .second, .val (.long r70_), .second, .val (.long r82_), .second, .val (.int (1 : Int32)), .unset, .unset] [(.int (lcmpW v109 v118))]) (fun t k => XS.lcmp X82.here hx rfl (hb hby at_119) rfl k) ?_
  have c120 : v109.toInt = v118.toInt := own_nij k81 hr61 hr70 hr82 hv109 hv113 hv117 hv118
  refine own_go (mkF m 123 #[.val (.long q1), .second, .val (.long q2), .second, .val (.int q3), .val (.int q4), .val (.int q5), .val (.long q6), .second, .val (.int r6), .val (.int v18), .val (.int v31), .val (.ref b34), .val (.long r52_), .second, .val (.long r61_), .second, .val (.long r70_), .second, .val (.long r82_), .second, .val (.int (1 : Int32)), .unset, .unset] []) (fun t k => XS.ifNo X82.here hx rfl (hb hby at_120) rfl (own_lcF (cd := .ne) (fun q => q c120)) k) ?_
  refine own_go (mkF m 124 #[.val (.long q1), .second, .val (.long q2), .second, .val (.int q3), .val (.int q4), .val (.int q5), .val (.long q6), .second, .val (.int r6), .val (.int v18), .val (.int v31), .val (.ref b34), .val (.long r52_), .second, .val (.long r61_), .second, .val (.long r70_), .second, .val (.long r82_), .second, .val (.int (1 : Int32)), .unset, .unset] [(.int (1 : Int32))]) (fun t k => XS.iconst X82.here hx rfl (hb hby at_123) k) ?_
  refine own_go (mkF m 128 #[.val (.long q1), .second, .val (.long q2), .second, .val (.int q3), .val (.int q4), .val (.int q5), .val (.long q6), .second, .val (.int r6), .val (.int v18), .val (.int v31), .val (.ref b34), .val (.long r52_), .second, .val (.long r61_), .second, .val (.long r70_), .second, .val (.long r82_), .second, .val (.int (1 : Int32)), .unset, .unset] [(.int (1 : Int32))]) (fun t k => XS.goto X82.here hx rfl (pc0 := 124) (pc' := 128) rfl (hb hby at_124) (by decide) (by decide) k) ?_
  refine own_go (mkF m 130 #[.val (.long q1), .second, .val (.long q2), .second, .val (.int q3), .val (.int q4), .val (.int q5), .val (.long q6), .second, .val (.int r6), .val (.int v18), .val (.int v31), .val (.ref b34), .val (.long r52_), .second, .val (.long r61_), .second, .val (.long r70_), .second, .val (.long r82_), .second, .val (.int (1 : Int32)), .unset, .unset] []) (fun t k => XS.istore X82.here hx rfl (hb hby at_128) rfl (l' := #[.val (.long q1), .second, .val (.long q2), .second, .val (.int q3), .val (.int q4), .val (.int q5), .val (.long q6), .second, .val (.int r6), .val (.int v18), .val (.int v31), .val (.ref b34), .val (.long r52_), .second, .val (.long r61_), .second, .val (.long r70_), .second, .val (.long r82_), .second, .val (.int (1 : Int32)), .unset, .unset]) rfl k) ?_
  refine own_go (mkF m 132 #[.val (.long q1), .second, .val (.long q2), .second, .val (.int q3), .val (.int q4), .val (.int q5), .val (.long q6), .second, .val (.int r6), .val (.int v18), .val (.int v31), .val (.ref b34), .val (.long r52_), .second, .val (.long r61_), .second, .val (.long r70_), .second, .val (.long r82_), .second, .val (.int (1 : Int32)), .unset, .unset] [(.int v18)]) (fun t k => XS.iload X82.here hx rfl (hb hby at_130) rfl k) ?_
  refine own_go (mkF m 133 #[.val (.long q1), .second, .val (.long q2), .second, .val (.int q3), .val (.int q4), .val (.int q5), .val (.long q6), .second, .val (.int r6), .val (.int v18), .val (.int v31), .val (.ref b34), .val (.long r52_), .second, .val (.long r61_), .second, .val (.long r70_), .second, .val (.long r82_), .second, .val (.int (1 : Int32)), .unset, .unset] [(.int (1 : Int32)), (.int v18)]) (fun t k => XS.iconst X82.here hx rfl (hb hby at_132) k) ?_
  refine own_go (mkF m 134 #[.val (.long q1), .second, .val (.long q2), .second, .val (.int q3), .val (.int q4), .val (.int q5), .val (.long q6), .second, .val (.int r6), .val (.int v18), .val (.int v31), .val (.ref b34), .val (.long r52_), .second, .val (.long r61_), .second, .val (.long r70_), .second, .val (.long r82_), .second, .val (.int (1 : Int32)), .unset, .unset] [(.int (v18 + (1 : Int32)))]) (fun t k => XS.iadd X82.here hx rfl (hb hby at_133) rfl k) ?_
  generalize hv133 : (v18 + (1 : Int32)) = v133
  have f133 : (v133.toInt - (v18.toInt + 1)) % 4294967296 = 0 := by rw [← hv133]; exact c_iadd v18 (1 : Int32)
  have r133 := rng32 v133
  refine own_go (mkF m 136 #[.val (.long q1), .second, .val (.long q2), .second, .val (.int q3), .val (.int q4), .val (.int q5), .val (.long q6), .second, .val (.int r6), .val (.int v18), .val (.int v31), .val (.ref b34), .val (.long r52_), .second, .val (.long r61_), .second, .val (.long r70_), .second, .val (.long r82_), .second, .val (.int (1 : Int32)), .unset, .unset] [(.int r6), (.int v133)]) (fun t k => XS.iload X82.here hx rfl (hb hby at_134) rfl k) ?_
  by_cases c136 : r6.toInt ≤ v133.toInt
  · skip
    refine own_go (mkF m 172 #[.val (.long q1), .second, .val (.long q2), .second, .val (.int q3), .val (.int q4), .val (.int q5), .val (.long q6), .second, .val (.int r6), .val (.int v18), .val (.int v31), .val (.ref b34), .val (.long r52_), .second, .val (.long r61_), .second, .val (.long r70_), .second, .val (.long r82_), .second, .val (.int (1 : Int32)), .unset, .unset] []) (fun t k => XS.icmpYes X82.here hx rfl (pc0 := 136) (pc' := 172) rfl (hb hby at_136) rfl (own_icT (cd := .ge) c136) (by decide) (by decide) k) ?_
    refine own_go (mkF m 174 #[.val (.long q1), .second, .val (.long q2), .second, .val (.int q3), .val (.int q4), .val (.int q5), .val (.long q6), .second, .val (.int r6), .val (.int v18), .val (.int v31), .val (.ref b34), .val (.long r52_), .second, .val (.long r61_), .second, .val (.long r70_), .second, .val (.long r82_), .second, .val (.int (1 : Int32)), .unset, .unset] [(.int (1 : Int32))]) (fun t k => XS.iload X82.here hx rfl (hb hby at_172) rfl k) ?_
    refine own_retI X82 hx hlk hret (by simp) rfl (hb hby at_174) (by decide) (by decide) ?_
    rw [e82]
    exact ⟨rfl, N82⟩
  · skip
    refine own_go (mkF m 139 #[.val (.long q1), .second, .val (.long q2), .second, .val (.int q3), .val (.int q4), .val (.int q5), .val (.long q6), .second, .val (.int r6), .val (.int v18), .val (.int v31), .val (.ref b34), .val (.long r52_), .second, .val (.long r61_), .second, .val (.long r70_), .second, .val (.long r82_), .second, .val (.int (1 : Int32)), .unset, .unset] []) (fun t k => XS.icmpNo X82.here hx rfl (hb hby at_136) rfl (own_icF (cd := .ge) c136) k) ?_
    refine own_go (mkF m 141 #[.val (.long q1), .second, .val (.long q2), .second, .val (.int q3), .val (.int q4), .val (.int q5), .val (.long q6), .second, .val (.int r6), .val (.int v18), .val (.int v31), .val (.ref b34), .val (.long r52_), .second, .val (.long r61_), .second, .val (.long r70_), .second, .val (.long r82_), .second, .val (.int (1 : Int32)), .unset, .unset] [(.ref b34)]) (fun t k => XS.aload X82.here hx rfl (hb hby at_139) rfl rfl k) ?_
    refine own_go (mkF m 143 #[.val (.long q1), .second, .val (.long q2), .second, .val (.int q3), .val (.int q4), .val (.int q5), .val (.long q6), .second, .val (.int r6), .val (.int v18), .val (.int v31), .val (.ref b34), .val (.long r52_), .second, .val (.long r61_), .second, .val (.long r70_), .second, .val (.long r82_), .second, .val (.int (1 : Int32)), .unset, .unset] [(.int v18), (.ref b34)]) (fun t k => XS.iload X82.here hx rfl (hb hby at_141) rfl k) ?_
    refine own_go (mkF m 144 #[.val (.long q1), .second, .val (.long q2), .second, .val (.int q3), .val (.int q4), .val (.int q5), .val (.long q6), .second, .val (.int r6), .val (.int v18), .val (.int v31), .val (.ref b34), .val (.long r52_), .second, .val (.long r61_), .second, .val (.long r70_), .second, .val (.long r82_), .second, .val (.int (1 : Int32)), .unset, .unset] [(.int (1 : Int32)), (.int v18), (.ref b34)]) (fun t k => XS.iconst X82.here hx rfl (hb hby at_143) k) ?_
    refine own_go (mkF m 145 #[.val (.long q1), .second, .val (.long q2), .second, .val (.int q3), .val (.int q4), .val (.int q5), .val (.long q6), .second, .val (.int r6), .val (.int v18), .val (.int v31), .val (.ref b34), .val (.long r52_), .second, .val (.long r61_), .second, .val (.long r70_), .second, .val (.long r82_), .second, .val (.int (1 : Int32)), .unset, .unset] [(.int (v18 + (1 : Int32))), (.ref b34)]) (fun t k => XS.iadd X82.here hx rfl (hb hby at_144) rfl k) ?_
    generalize hv144 : (v18 + (1 : Int32)) = v144
    have f144 : (v144.toInt - (v18.toInt + 1)) % 4294967296 = 0 := by rw [← hv144]; exact c_iadd v18 (1 : Int32)
    have r144 := rng32 v144
    have k144 : v144.toInt = v18.toInt + 1 := by omega
    refine own_callV X82 hx hZ (y := (⟨"com/example/tallygate/tallygate/core/Sequences$Run", "number", "(I)J"⟩ : MethodName)) hown (hw _ (List.mem_of_getElem? (i := 27) rfl)) (hw _ (List.mem_of_getElem? (i := 28) rfl)) (hw _ (List.mem_of_getElem? (i := 30) rfl)) (hw _ (List.mem_of_getElem? (i := 29) rfl)) (hw _ (List.mem_of_getElem? (i := 7) rfl)) (hw _ (List.mem_of_getElem? (i := 31) rfl)) (by decide) e82 b34 A34_44 (rm2 l Z a0 hw [] b34 v144 q1 q2 h44 n0 Z0_44 F_first_b34_44 F_step_b34_44) 0 (by decide) (by decide) (by decide) (by decide) (g := (mkF m 145 #[.val (.long q1), .second, .val (.long q2), .second, .val (.int q3), .val (.int q4), .val (.int q5), .val (.long q6), .second, .val (.int r6), .val (.int v18), .val (.int v31), .val (.ref b34), .val (.long r52_), .second, .val (.long r61_), .second, .val (.long r70_), .second, .val (.long r82_), .second, .val (.int (1 : Int32)), .unset, .unset] [(.int v144), (.ref b34)])) rfl (by rw [hml]; rfl) [(.int v144)] [] (lenOf pd0_2 rfl) rfl rfl (by show 2 * 0 + _ ≤ _; exact Nat.le_of_eq rfl) (hb hby at_145) ?_
    intro rv145 T145 h145 L145 X145 e145 hQ145
    obtain ⟨⟨r145_, rfl, hr145⟩, NQ145, eq145⟩ := hQ145
    rw [eq145] at e145
    have rr145 := rng64 r145_
    have N145 := Fr.app N82 NQ145
    show own_Ends p e below s room_1.cells room_1.slots (Q0 Z q1 q2 q3 q4 q5 q6 h0 n0) T145 (mkF m 148 #[.val (.long q1), .second, .val (.long q2), .second, .val (.int q3), .val (.int q4), .val (.int q5), .val (.long q6), .second, .val (.int r6), .val (.int v18), .val (.int v31), .val (.ref b34), .val (.long r52_), .second, .val (.long r61_), .second, .val (.long r70_), .second, .val (.long r82_), .second, .val (.int (1 : Int32)), .unset, .unset] [(.long r145_)])
    refine own_go (mkF m 150 #[.val (.long q1), .second, .val (.long q2), .second, .val (.int q3), .val (.int q4), .val (.int q5), .val (.long q6), .second, .val (.int r6), .val (.int v18), .val (.int v31), .val (.ref b34), .val (.long r52_), .second, .val (.long r61_), .second, .val (.long r70_), .second, .val (.long r82_), .second, .val (.int (1 : Int32)), .val (.long r145_), .second] []) (fun t k => XS.lstore X145.here hx rfl (hb hby at_148) rfl (l' := #[.val (.long q1), .second, .val (.long q2), .second, .val (.int q3), .val (.int q4), .val (.int q5), .val (.long q6), .second, .val (.int r6), .val (.int v18), .val (.int v31), .val (.ref b34), .val (.long r52_), .second, .val (.long r61_), .second, .val (.long r70_), .second, .val (.long r82_), .second, .val (.int (1 : Int32)), .val (.long r145_), .second]) rfl k) ?_
    refine own_go (mkF m 152 #[.val (.long q1), .second, .val (.long q2), .second, .val (.int q3), .val (.int q4), .val (.int q5), .val (.long q6), .second, .val (.int r6), .val (.int v18), .val (.int v31), .val (.ref b34), .val (.long r52_), .second, .val (.long r61_), .second, .val (.long r70_), .second, .val (.long r82_), .second, .val (.int (1 : Int32)), .val (.long r145_), .second] [(.int (1 : Int32))]) (fun t k => XS.iload X145.here hx rfl (hb hby at_150) rfl k) ?_
    refine own_go (mkF m 155 #[.val (.long q1), .second, .val (.long q2), .second, .val (.int q3), .val (.int q4), .val (.int q5), .val (.long q6), .second, .val (.int r6), .val (.int v18), .val (.int v31), .val (.ref b34), .val (.long r52_), .second, .val (.long r61_), .second, .val (.long r70_), .second, .val (.long r82_), .second, .val (.int (1 : Int32)), .val (.long r145_), .second] []) (fun t k => XS.ifNo X145.here hx rfl (hb hby at_152) rfl (by decide) k) ?_
    refine own_go (mkF m 157 #[.val (.long q1), .second, .val (.long q2), .second, .val (.int q3), .val (.int q4), .val (.int q5), .val (.long q6), .second, .val (.int r6), .val (.int v18), .val (.int v31), .val (.ref b34), .val (.long r52_), .second, .val (.long r61_), .second, .val (.long r70_), .second, .val (.long r82_), .second, .val (.int (1 : Int32)), .val (.long r145_), .second] [(.long r145_)]) (fun t k => XS.lload X145.here hx rfl (hb hby at_155) rfl k) ?_
    refine own_go (mkF m 159 #[.val (.long q1), .second, .val (.long q2), .second, .val (.int q3), .val (.int q4), .val (.int q5), .val (.long q6), .second, .val (.int r6), .val (.int v18), .val (.int v31), .val (.ref b34), .val (.long r52_), .second, .val (.long r61_), .second, .val (.long r70_), .second, .val (.long r82_), .second, .val (.int (1 : Int32)), .val (.long r145_), .second] [(.long r61_), (.long r145_)]) (fun t k => XS.lload X145.here hx rfl (hb hby at_157) rfl k) ?_
    refine own_go (mkF m 160 #[.val (.long q1), .second, .val (.long q2), .second, .val (.int q3), .val (.int q4), .val (.int q5), .val (.long q6), .second, .val (.int r6), .val (.int v18), .val (.int v31), .val (.ref b34), .val (.long r52_), .second, .val (.long r61_), .second, .val (.long r70_), .second, .val (.long r82_), .second, .val (.int (1 : Int32)), .val (.long r145_), .second] [(.long q2), (.long r61_), (.long r145_)]) (fun t k => XS.lloadN X145.here hx rfl (hb hby at_159) rfl k) ?_
    refine own_go (mkF m 161 #[.val (.long q1), .second, .val (.long q2), .second, .val (.int q3), .val (.int q4), .val (.int q5), .val (.long q6), .second, .val (.int r6), .val (.int v18), .val (.int v31), .val (.ref b34), .val (.long r52_), .second, .val (.long r61_), .second, .val (.long r70_), .second, .val (.long r82_), .second, .val (.int (1 : Int32)), .val (.long r145_), .second] [(.long (r61_ + q2)), (.long r145_)]) (fun t k => XS.ladd X145.here hx rfl (hb hby at_160) rfl k) ?_
    generalize hv160 : (r61_ + q2) = v160
    refine own_go (mkF m 162 #[.val (.long q1), .second, .val (.long q2), .second, .val (.int q3), .val (.int q4), .val (.int q5), .val (.long q6), .second, .val (.int r6), .val (.int v18), .val (.int v31), .val (.ref b34), .val (.long r52_), .second, .val (.long r61_), .second, .val (.long r70_), .second, .val (.long r82_), .second, .val (.int (1 : Int32)), .val (.long r145_), .second] [(.int (lcmpW r145_ v160))]) (fun t k => XS.lcmp X145.here hx rfl (hb hby at_161) rfl k) ?_
    have c162 : r145_.toInt = v160.toInt := own_next k144 hr61 hr145 hv160
    refine own_go (mkF m 165 #[.val (.long q1), .second, .val (.long q2), .second, .val (.int q3), .val (.int q4), .val (.int q5), .val (.long q6), .second, .val (.int r6), .val (.int v18), .val (.int v31), .val (.ref b34), .val (.long r52_), .second, .val (.long r61_), .second, .val (.long r70_), .second, .val (.long r82_), .second, .val (.int (1 : Int32)), .val (.long r145_), .second] []) (fun t k => XS.ifNo X145.here hx rfl (hb hby at_162) rfl (own_lcF (cd := .ne) (fun q => q c162)) k) ?_
    refine own_go (mkF m 166 #[.val (.long q1), .second, .val (.long q2), .second, .val (.int q3), .val (.int q4), .val (.int q5), .val (.long q6), .second, .val (.int r6), .val (.int v18), .val (.int v31), .val (.ref b34), .val (.long r52_), .second, .val (.long r61_), .second, .val (.long r70_), .second, .val (.long r82_), .second, .val (.int (1 : Int32)), .val (.long r145_), .second] [(.int (1 : Int32))]) (fun t k => XS.iconst X145.here hx rfl (hb hby at_165) k) ?_
    refine own_go (mkF m 170 #[.val (.long q1), .second, .val (.long q2), .second, .val (.int q3), .val (.int q4), .val (.int q5), .val (.long q6), .second, .val (.int r6), .val (.int v18), .val (.int v31), .val (.ref b34), .val (.long r52_), .second, .val (.long r61_), .second, .val (.long r70_), .second, .val (.long r82_), .second, .val (.int (1 : Int32)), .val (.long r145_), .second] [(.int (1 : Int32))]) (fun t k => XS.goto X145.here hx rfl (pc0 := 166) (pc' := 170) rfl (hb hby at_166) (by decide) (by decide) k) ?_
    refine own_go (mkF m 172 #[.val (.long q1), .second, .val (.long q2), .second, .val (.int q3), .val (.int q4), .val (.int q5), .val (.long q6), .second, .val (.int r6), .val (.int v18), .val (.int v31), .val (.ref b34), .val (.long r52_), .second, .val (.long r61_), .second, .val (.long r70_), .second, .val (.long r82_), .second, .val (.int (1 : Int32)), .val (.long r145_), .second] []) (fun t k => XS.istore X145.here hx rfl (hb hby at_170) rfl (l' := #[.val (.long q1), .second, .val (.long q2), .second, .val (.int q3), .val (.int q4), .val (.int q5), .val (.long q6), .second, .val (.int r6), .val (.int v18), .val (.int v31), .val (.ref b34), .val (.long r52_), .second, .val (.long r61_), .second, .val (.long r70_), .second, .val (.long r82_), .second, .val (.int (1 : Int32)), .val (.long r145_), .second]) rfl k) ?_
    refine own_go (mkF m 174 #[.val (.long q1), .second, .val (.long q2), .second, .val (.int q3), .val (.int q4), .val (.int q5), .val (.long q6), .second, .val (.int r6), .val (.int v18), .val (.int v31), .val (.ref b34), .val (.long r52_), .second, .val (.long r61_), .second, .val (.long r70_), .second, .val (.long r82_), .second, .val (.int (1 : Int32)), .val (.long r145_), .second] [(.int (1 : Int32))]) (fun t k => XS.iload X145.here hx rfl (hb hby at_172) rfl k) ?_
    refine own_retI X145 hx hlk hret (by simp) rfl (hb hby at_174) (by decide) (by decide) ?_
    rw [e145]
    exact ⟨rfl, N145⟩
set_option maxRecDepth 65536 in
set_option maxHeartbeats 40000000 in
theorem comes_1 {Post : Tables → Env → Array Value → State → Outcome → State → Prop} (hpost : ∀ tb e args s v u, (limb_1_1.after args s (.returned v) u = true ∧ limb_1_2.after args s (.returned v) u = true ∧ True) → FrameEnd s (.returned v) u (Jvm.fieldLocs frame_1_writes args s ++ Jvm.arrayLocs frame_1_arrays args s ++ Jvm.staticLocs frame_1_statics s) 16 128 → Post tb e args s (.returned v) u) :
    ArmFor flags0 classFile x code maxLocals ret World_1 tables_1 room_1 Calls_1 rest_1 Pre_1 Post := by
  intro l hfl _ _ p e ha hc hk s m args below hf hA hF happ hP
  obtain ⟨hcalls, hrest, hpre⟩ := hP
  obtain ⟨-, -, -, hnamed, -, -, -, hat⟩ := (Spec.applies_iff hf).mp happ
  obtain ⟨hg, hn⟩ := and_e (Cond.before_iff.mp (show (Jvm.Cond.and given_1 narrow_1).before args s = true from hpre))
  obtain ⟨q0, u0⟩ := and_e hg
  obtain ⟨k0, u1⟩ := and_e u0
  obtain ⟨k1, u2⟩ := and_e u1
  obtain ⟨k2, u3⟩ := and_e u2
  obtain ⟨k3, u4⟩ := and_e u3
  obtain ⟨k4, u5⟩ := and_e u4
  obtain ⟨w0, w1, w2, w3, w4, w5, rfl⟩ : ∃ w0 w1 w2 w3 w4 w5 : Value, args = #[w0, w1, w2, w3, w4, w5] := by
    have hs : args.size = 6 := by simpa [Cond.value, given_1] using q0
    obtain ⟨L⟩ := args
    match L, hs with
    | [w0, w1, w2, w3, w4, w5], _ => exact ⟨w0, w1, w2, w3, w4, w5, rfl⟩
  have hw := fun d (hd : d ∈ tables_1) => atoms_spec (ws := Jvm.Cond.code x code maxLocals ret :: tables_1) hat d (List.mem_cons_of_mem _ hd)
  obtain ⟨i0, g0⟩ := isL_v k0
  obtain rfl : w0 = (.long i0) := Option.some.inj g0
  obtain ⟨i1, g1⟩ := isL_v k1
  obtain rfl : w1 = (.long i1) := Option.some.inj g1
  obtain ⟨i2, g2⟩ := is_v k2
  obtain rfl : w2 = (.int i2) := Option.some.inj g2
  obtain ⟨i3, g3⟩ := is_v k3
  obtain rfl : w3 = (.int i3) := Option.some.inj g3
  obtain ⟨i4, g4⟩ := is_v k4
  obtain rfl : w4 = (.int i4) := Option.some.inj g4
  obtain ⟨i5, g5⟩ := isL_v u5
  obtain rfl : w5 = (.long i5) := Option.some.inj g5
  obtain ⟨n, o, h1, h2, h3, _, L, rfl, ⟨rfl, N⟩, hq⟩ := rm0 l s _ hw tables_1 i0 i1 i2 i3 i4 i5 s.heap s.heap.size (Nat.le_refl _)  p e ha hc hk s m _ below hf ((Spec.applies_iff_loose hf).mp happ).1 ⟨rfl, State.Warmed39.refl s, rfl⟩ trivial
  refine ⟨n, _, h1, h2, h3, hpost _ _ _ _ _ _ ⟨Cond.after_iff.mpr rfl, Cond.after_iff.mpr (eq_i res_at (Term.int_eval (1)) rfl), trivial⟩ ⟨hq.1, hq.2.1, (hq.2.2.sift fun y hy => Or.inr (N y hy)).mono (by decide) (by decide)⟩⟩
theorem main_1_1 : Claimed_1_1 := comes_1 fun _ _ _ _ _ _ h hF => ⟨h.1, hF⟩
theorem main_1_2 : Claimed_1_2 := comes_1 fun _ _ _ _ _ _ h hF => ⟨h.2.1, hF⟩
end Jvm.Pilot.@@N@@
namespace Jvm.Pilot.@@N@@
open Jvm Jvm.ClassFile Sem Op Lib Jvm.Free Jvm.Stand Jvm.Pilot.@@N@@.Jvm.D
/-! MADE BY PROGRAM (witnessworld.py) out of the Statement's table words and the real class files: 11 classes; the members and pool entries that the words name. The judged class is class 1, her method 1. -/
namespace start1
open Jvm.ClassFile
def u (s : String) : CpInfo := .utf8 (stringToUtf16 s)
/-- a pool by its gaps: so many unusable entries, then the entry; so many at the end -/
def gap : Nat → List CpInfo → List CpInfo
  | 0, r => r
  | n + 1, r => .unusable :: gap n r
def poolList (es : List (Nat × CpInfo)) (last : Nat) : List CpInfo := es.foldr (fun e r => gap e.1 (e.2 :: r)) (gap last [])
def pool (es : List (Nat × CpInfo)) (last : Nat) : Array CpInfo := ⟨poolList es last⟩
def fileOf (pool : Array CpInfo) (this : Nat) (attrs : Array Attribute := #[]) (ms : Array MethodInfo := #[]) (fl : Nat := 33) (sup : Nat := 0) (ifs : Array Nat := #[]) (fds : Array FieldInfo := #[]) : ClassFile where
  minorVersion := 0
  majorVersion := 65
  constantPool := pool
  accessFlags := fl
  thisClass := this
  superClass := sup
  interfaces := ifs
  fields := fds
  methods := ms
  attributes := attrs
def plain (name : String) (sup : Option ClassId) : Class where
  name := name
  kind := .ordinary
  loader := none
  accessFlags := 33
  super := sup
  interfaces := #[]
  cf := none
  fields := #[]
  methods := #[]
  instanceTypes := #[]
  staticTypes := #[]
  resolved := #[]
  callSites := []
  init := .initialized
  statics := none
  mirror := none

def pool0 : Array CpInfo := pool [(5, u "<init>"), (0, u "()V"), (1, .class_ 10), (1, u "java/lang/Object")] 113

def k0c0 : Code := { maxStack := 0, maxLocals := 1, code := object_method_1_code, exceptionTable := #[], attributes := #[] }
def k0m0 : Method := { name := "<init>", desc := "()V", sig := { parameters := [], returnType := none }, accessFlags := 1, code := some k0c0 }
/-- java/lang/Object -/
def k0 : Class := { plain "java/lang/Object" none with
  accessFlags := 33
  interfaces := #[]
  cf := some (fileOf pool0 8 #[] #[{ accessFlags := 1, nameIndex := 5, descriptorIndex := 6, attributes := #[] }] 33 0 #[] #[])
  fields := #[]
  methods := #[k0m0]
  instanceTypes := #[]
  staticTypes := #[]
  resolved := Array.replicate 124 none
  statics := none }

def pool1 : Array CpInfo := pool [(2, .class_ 4), (1, u "java/lang/Object"), (0, u "<init>"), (0, u "()V"), (0, .integer 2147483647), (0, .methodref 9 10), (0, .class_ 11), (0, .nameAndType 12 13), (0, u "java/lang/Math"), (0, u "max"), (0, u "(II)I"), (0, .class_ 15), (0, u "com/example/tallygate/tallygate/core/Sequences$Run"), (0, .methodref 14 17), (0, .nameAndType 5 18), (0, u "(JJIJ)V"), (0, .methodref 14 20), (0, .nameAndType 21 22), (0, u "number"), (0, u "(I)J"), (0, .class_ 24), (0, u "com/example/tallygate/tallygate/core/RunNumberPinLaw"), (2, u "law"), (0, u "(JJIIIJ)Z")] 7

def k1m0 : Method := { name := "<init>", desc := "()V", sig := { parameters := [], returnType := none }, accessFlags := 1, code := none }
def k1c1 : Code := { maxStack := 9, maxLocals := 24, code := code, exceptionTable := #[], attributes := #[] }
def k1m1 : Method := { name := "law", desc := "(JJIIIJ)Z", sig := { parameters := [.long, .long, .int, .int, .int, .long], returnType := some .boolean }, accessFlags := 9, code := some k1c1 }
/-- com/example/tallygate/tallygate/core/RunNumberPinLaw -/
def k1 : Class := { plain "com/example/tallygate/tallygate/core/RunNumberPinLaw" (some 0) with
  accessFlags := 49
  interfaces := #[]
  cf := some (fileOf pool1 23 #[] #[{ accessFlags := 1, nameIndex := 5, descriptorIndex := 6, attributes := #[] }, { accessFlags := 9, nameIndex := 27, descriptorIndex := 28, attributes := #[] }] 49 2 #[] #[])
  fields := #[]
  methods := #[k1m0, k1m1]
  instanceTypes := #[]
  staticTypes := #[]
  resolved := Array.replicate 36 none
  statics := none }

def pool2 : Array CpInfo := pool [(1, .class_ 2), (0, u "java/lang/Math"), (1, .class_ 6), (1, u "java/lang/Object"), (0, u "<init>"), (0, u "()V"), (89, .class_ 100), (1, u "java/lang/Math$RandomNumberGeneratorHolder"), (71, u "negativeZeroFloatBits"), (0, u "J"), (2, u "negativeZeroDoubleBits"), (21, u "max"), (46, u "$assertionsDisabled"), (0, u "Z"), (88, u "(II)I"), (2, u "twoToTheDoubleScaleDown"), (0, u "D"), (4, u "twoToTheDoubleScaleUp"), (9, u "E"), (3, u "PI"), (2, u "TAU"), (2, u "DEGREES_TO_RADIANS"), (0, u "RADIANS_TO_DEGREES")] 94

def k2m0 : Method := { name := "<init>", desc := "()V", sig := { parameters := [], returnType := none }, accessFlags := 2, code := none }
def k2c1 : Code := { maxStack := 2, maxLocals := 2, code := jdk_29_method_65_code, exceptionTable := #[], attributes := #[] }
def k2m1 : Method := { name := "max", desc := "(II)I", sig := { parameters := [.int, .int], returnType := some .int }, accessFlags := 9, code := some k2c1 }
/-- java/lang/Math -/
def k2 : Class := { plain "java/lang/Math" (some 0) with
  accessFlags := 49
  interfaces := #[]
  cf := some (fileOf pool2 1 #[.nestMembers #[98]] #[{ accessFlags := 2, nameIndex := 7, descriptorIndex := 8, attributes := #[] }, { accessFlags := 9, nameIndex := 198, descriptorIndex := 335, attributes := #[] }] 49 4 #[] #[{ accessFlags := 25, nameIndex := 354, descriptorIndex := 339, attributes := #[] }, { accessFlags := 25, nameIndex := 358, descriptorIndex := 339, attributes := #[] }, { accessFlags := 25, nameIndex := 361, descriptorIndex := 339, attributes := #[] }, { accessFlags := 26, nameIndex := 364, descriptorIndex := 339, attributes := #[] }, { accessFlags := 26, nameIndex := 365, descriptorIndex := 339, attributes := #[] }, { accessFlags := 26, nameIndex := 172, descriptorIndex := 173, attributes := #[] }, { accessFlags := 26, nameIndex := 176, descriptorIndex := 173, attributes := #[] }, { accessFlags := 8, nameIndex := 344, descriptorIndex := 339, attributes := #[] }, { accessFlags := 8, nameIndex := 338, descriptorIndex := 339, attributes := #[] }, { accessFlags := 4120, nameIndex := 245, descriptorIndex := 246, attributes := #[] }])
  fields := #[{ name := "E", type := .double, accessFlags := 25, slot := 0, constantValue := 0 }, { name := "PI", type := .double, accessFlags := 25, slot := 1, constantValue := 0 }, { name := "TAU", type := .double, accessFlags := 25, slot := 2, constantValue := 0 }, { name := "DEGREES_TO_RADIANS", type := .double, accessFlags := 26, slot := 3, constantValue := 0 }, { name := "RADIANS_TO_DEGREES", type := .double, accessFlags := 26, slot := 4, constantValue := 0 }, { name := "negativeZeroFloatBits", type := .long, accessFlags := 26, slot := 5, constantValue := 0 }, { name := "negativeZeroDoubleBits", type := .long, accessFlags := 26, slot := 6, constantValue := 0 }, { name := "twoToTheDoubleScaleUp", type := .double, accessFlags := 8, slot := 7, constantValue := 0 }, { name := "twoToTheDoubleScaleDown", type := .double, accessFlags := 8, slot := 8, constantValue := 0 }, { name := "$assertionsDisabled", type := .boolean, accessFlags := 4120, slot := 9, constantValue := 0 }]
  methods := #[k2m0, k2m1]
  instanceTypes := #[]
  staticTypes := #[.double, .double, .double, .double, .double, .long, .long, .double, .double, .boolean]
  resolved := Array.replicate 460 none
  statics := none }

def pool3 : Array CpInfo := pool [(1, .methodref 2 3), (0, .class_ 4), (0, .nameAndType 5 6), (0, u "java/lang/Object"), (0, u "<init>"), (0, u "()V"), (0, .class_ 8), (0, u "java/lang/Record")] 13

def k3c0 : Code := { maxStack := 1, maxLocals := 1, code := jdk_30_method_1_code, exceptionTable := #[], attributes := #[] }
def k3m0 : Method := { name := "<init>", desc := "()V", sig := { parameters := [], returnType := none }, accessFlags := 4, code := some k3c0 }
/-- java/lang/Record -/
def k3 : Class := { plain "java/lang/Record" (some 0) with
  accessFlags := 1057
  interfaces := #[]
  cf := some (fileOf pool3 7 #[] #[{ accessFlags := 4, nameIndex := 5, descriptorIndex := 6, attributes := #[] }] 1057 2 #[] #[])
  fields := #[]
  methods := #[k3m0]
  instanceTypes := #[]
  staticTypes := #[]
  resolved := Array.replicate 22 none
  statics := none }

def pool4 : Array CpInfo := pool [(1, .methodref 2 3), (0, .class_ 4), (0, .nameAndType 5 6), (0, u "java/lang/Record"), (0, u "<init>"), (0, u "()V"), (0, .fieldref 8 9), (0, .class_ 10), (0, .nameAndType 11 12), (0, u "com/example/tallygate/tallygate/core/Sequences$Run"), (0, u "first"), (0, u "J"), (0, .fieldref 8 14), (0, .nameAndType 15 12), (0, u "step"), (0, .fieldref 8 17), (0, .nameAndType 18 19), (0, u "count"), (0, u "I"), (0, .fieldref 8 21), (0, .nameAndType 22 12), (0, u "timeMillis"), (12, u "(JJIJ)V"), (3, u "number"), (0, u "(I)J"), (7, .class_ 49), (0, u "com/example/tallygate/tallygate/core/Sequences")] 22

def k4c0 : Code := { maxStack := 3, maxLocals := 8, code := prog_29_method_1_code, exceptionTable := #[], attributes := #[] }
def k4m0 : Method := { name := "<init>", desc := "(JJIJ)V", sig := { parameters := [.long, .long, .int, .long], returnType := none }, accessFlags := 1, code := some k4c0 }
def k4c1 : Code := { maxStack := 6, maxLocals := 2, code := prog_29_method_2_code, exceptionTable := #[], attributes := #[] }
def k4m1 : Method := { name := "number", desc := "(I)J", sig := { parameters := [.int], returnType := some .long }, accessFlags := 1, code := some k4c1 }
/-- com/example/tallygate/tallygate/core/Sequences$Run -/
def k4 : Class := { plain "com/example/tallygate/tallygate/core/Sequences$Run" (some 3) with
  accessFlags := 49
  interfaces := #[]
  cf := some (fileOf pool4 8 #[.nestHost 48] #[{ accessFlags := 1, nameIndex := 5, descriptorIndex := 35, attributes := #[] }, { accessFlags := 1, nameIndex := 39, descriptorIndex := 40, attributes := #[] }] 49 2 #[] #[{ accessFlags := 18, nameIndex := 11, descriptorIndex := 12, attributes := #[] }, { accessFlags := 18, nameIndex := 15, descriptorIndex := 12, attributes := #[] }, { accessFlags := 18, nameIndex := 18, descriptorIndex := 19, attributes := #[] }, { accessFlags := 18, nameIndex := 22, descriptorIndex := 12, attributes := #[] }])
  fields := #[{ name := "first", type := .long, accessFlags := 18, slot := 0, constantValue := 0 }, { name := "step", type := .long, accessFlags := 18, slot := 1, constantValue := 0 }, { name := "count", type := .int, accessFlags := 18, slot := 2, constantValue := 0 }, { name := "timeMillis", type := .long, accessFlags := 18, slot := 3, constantValue := 0 }]
  methods := #[k4m0, k4m1]
  instanceTypes := #[.long, .long, .int, .long]
  staticTypes := #[]
  resolved := Array.replicate 72 none
  statics := none }

def pool5 : Array CpInfo := pool [(1, u "java/lang/Cloneable"), (0, .class_ 1), (0, u "java/lang/Object"), (0, .class_ 3)] 3

/-- java/lang/Cloneable -/
def k5 : Class := { plain "java/lang/Cloneable" (some 0) with
  accessFlags := 1537
  interfaces := #[]
  cf := some (fileOf pool5 2 #[] #[] 1537 4 #[] #[])
  fields := #[]
  methods := #[]
  instanceTypes := #[]
  staticTypes := #[]
  resolved := Array.replicate 8 none
  statics := none }

def pool6 : Array CpInfo := pool [(1, u "java/io/Serializable"), (0, .class_ 1), (0, u "java/lang/Object"), (0, .class_ 3)] 3

/-- java/io/Serializable -/
def k6 : Class := { plain "java/io/Serializable" (some 0) with
  accessFlags := 1537
  interfaces := #[]
  cf := some (fileOf pool6 2 #[] #[] 1537 4 #[] #[])
  fields := #[]
  methods := #[]
  instanceTypes := #[]
  staticTypes := #[]
  resolved := Array.replicate 8 none
  statics := none }

/-- the primitive byte -/
def k7 : Class := { plain "byte" none with kind := .primitive 'B', accessFlags := 0x411 }
/-- [B -/
def k8 : Class := { plain "[B" (some 0) with kind := .array 7 .byte, interfaces := #[5, 6], accessFlags := 1041 }

/-- the primitive int -/
def k9 : Class := { plain "int" none with kind := .primitive 'I', accessFlags := 0x411 }
/-- [I -/
def k10 : Class := { plain "[I" (some 0) with kind := .array 9 .int, interfaces := #[5, 6], accessFlags := 1041 }

def heap : Heap := #[]
def classes : Array Class := #[k0, k1, k2, k3, k4, k5, k6, k7, k8, k9, k10]
def interned : List (Array UInt16 × Addr) := []
def slotsUsed : Nat := 0
def theMethod : MethodId := ⟨1, 1⟩
def args0 : Array Value := #[.long 5, .long 7, .int 2, .int 4, .int 3, .long 9]
def aboutOver (below : List Frame) : State where
  vm := { classes := classes, interned := interned.toArray }
  heap := heap
  slotsUsed := slotsUsed
  threads := #[{ frames := .invoking theMethod args0 :: below }]
def below0 : List Frame := [.native { method := ⟨0, 0⟩, args := #[] }]
def about1 : State := aboutOver below0
def p0 : Program := .bare "" "" ""
def e0 : Env := launch0.env 0 0 0
theorem w_frames : about1.frames = Frame.invoking theMethod args0 :: below0 := rfl
set_option maxRecDepth 65536 in
theorem w_args : argsFit about1.vm theMethod args0 = true := by decide +kernel
set_option maxRecDepth 65536 in
theorem w_heap : heapFits about1 = true := by decide +kernel
set_option maxRecDepth 65536 in
theorem w_runnable : about1.curStatus? = some .runnable := by decide +kernel
set_option maxRecDepth 65536 in
theorem w_alone : about1.alone = true := by decide +kernel
set_option maxRecDepth 65536 in
theorem w_named : about1.methodNamed? x = some theMethod := by decide +kernel
set_option maxRecDepth 65536 in
theorem w_hears : about1.hears theMethod below0 = true := by decide +kernel
set_option maxRecDepth 65536 in
theorem w_ripe : about1.ripe theMethod args0 below0 = true := by decide +kernel
theorem w_running : about1.status = .running := rfl
set_option maxRecDepth 65536 in
theorem w_room : about1.hasRoom e0.platform room_1 = true :=
  launch0.hasRoom_least _ room_1 (by decide +kernel) (by decide +kernel) (by decide +kernel) (by decide +kernel) (by decide +kernel) (by decide +kernel)
theorem allAtoms_all (ts : List Jvm.Cond) (a : Array Jvm.Value) (st : Jvm.State) : (allAtoms ts).before a st = ts.all (fun c => c.before a st) := by
  induction ts with
  | nil => rfl
  | cons c t ih =>
    show (Jvm.Cond.and c (allAtoms t)).before a st = _
    rw [Jvm.Cond.before_and, ih, List.all_cons]
def words1 : List Jvm.Cond := Jvm.Cond.code x code maxLocals ret :: tables_1
/-- a 'code' word, met by the world's own term for the bytes: nothing is compared byte by byte -/
theorem code_word {y : MethodName} {bytes : ByteArray} {mx : Nat} {rt : Option FieldType} {a : Array Value} {s : State} {m : MethodId} {meth : Method} {c : Code} (h1 : s.methodNamed? y = some m) (h2 : s.vm.method? m = some meth) (h3 : meth.code = some c) (h4 : c.code = bytes)
    (h5 : (c.maxLocals == mx && c.exceptionTable.isEmpty && decide (c.maxStack ≤ mostOperands) && decide (meth.sig.returnType = rt) && !meth.locks && decide (parseMethodDescriptor y.desc = some meth.sig)) = true) : (Jvm.Cond.code y bytes mx rt).before a s = true := by
  simp only [Bool.and_eq_true, beq_iff_eq, Bool.not_eq_true', decide_eq_true_eq] at h5
  obtain ⟨⟨⟨⟨⟨g1, g2⟩, g3⟩, g4⟩, g5⟩, g6⟩ := h5
  simp [Cond.before, Cond.holds, Cond.value, h1, h2, h3, h4, g1, g2, g3, g4, g5, g6]
def isCode : Jvm.Cond → Bool
  | .code _ _ _ _ => true
  | _ => false
theorem all_split {L : List Jvm.Cond} {P : Jvm.Cond → Bool} (h1 : L.all (fun c => isCode c || P c) = true) (h2 : ∀ c ∈ L.filter isCode, P c = true) : L.all P = true := by
  refine List.all_eq_true.mpr fun c hc => ?_
  have h := List.all_eq_true.mp h1 c hc
  rcases Bool.eq_false_or_eq_true (isCode c) with hi | hi
  · exact h2 c (List.mem_filter.mpr ⟨hc, hi⟩)
  · simpa [hi] using h
set_option maxRecDepth 65536 in
theorem w_c0 : (Jvm.Cond.code x code maxLocals ret).before args0 about1 = true := code_word (m := ⟨1, 1⟩) (meth := k1m1) (c := k1c1) (by decide +kernel) rfl rfl rfl (by decide +kernel)
set_option maxRecDepth 65536 in
theorem w_c1 : (Jvm.Cond.code ({ cls := "java/lang/Math", name := "max", desc := "(II)I" } : Jvm.MethodName) jdk_29_method_65_code (2 : Nat) (Option.some Jvm.ClassFile.FieldType.int)).before args0 about1 = true := code_word (m := ⟨2, 1⟩) (meth := k2m1) (c := k2c1) (by decide +kernel) rfl rfl rfl (by decide +kernel)
set_option maxRecDepth 65536 in
theorem w_c2 : (Jvm.Cond.code ({ cls := "com/example/tallygate/tallygate/core/Sequences$Run", name := "<init>", desc := "(JJIJ)V" } : Jvm.MethodName) prog_29_method_1_code (8 : Nat) (Option.none : Option Jvm.ClassFile.FieldType)).before args0 about1 = true := code_word (m := ⟨4, 0⟩) (meth := k4m0) (c := k4c0) (by decide +kernel) rfl rfl rfl (by decide +kernel)
set_option maxRecDepth 65536 in
theorem w_c3 : (Jvm.Cond.code ({ cls := "java/lang/Record", name := "<init>", desc := "()V" } : Jvm.MethodName) jdk_30_method_1_code (1 : Nat) (Option.none : Option Jvm.ClassFile.FieldType)).before args0 about1 = true := code_word (m := ⟨3, 0⟩) (meth := k3m0) (c := k3c0) (by decide +kernel) rfl rfl rfl (by decide +kernel)
set_option maxRecDepth 65536 in
theorem w_c4 : (Jvm.Cond.code ({ cls := "java/lang/Object", name := "<init>", desc := "()V" } : Jvm.MethodName) object_method_1_code (1 : Nat) (Option.none : Option Jvm.ClassFile.FieldType)).before args0 about1 = true := code_word (m := ⟨0, 0⟩) (meth := k0m0) (c := k0c0) (by decide +kernel) rfl rfl rfl (by decide +kernel)
set_option maxRecDepth 65536 in
theorem w_c5 : (Jvm.Cond.code ({ cls := "com/example/tallygate/tallygate/core/Sequences$Run", name := "number", desc := "(I)J" } : Jvm.MethodName) prog_29_method_2_code (2 : Nat) (Option.some Jvm.ClassFile.FieldType.long)).before args0 about1 = true := code_word (m := ⟨4, 1⟩) (meth := k4m1) (c := k4c1) (by decide +kernel) rfl rfl rfl (by decide +kernel)
def codes1 : List Jvm.Cond := [Jvm.Cond.code x code maxLocals ret, Jvm.Cond.code ({ cls := "java/lang/Math", name := "max", desc := "(II)I" } : Jvm.MethodName) jdk_29_method_65_code (2 : Nat) (Option.some Jvm.ClassFile.FieldType.int), Jvm.Cond.code ({ cls := "com/example/tallygate/tallygate/core/Sequences$Run", name := "<init>", desc := "(JJIJ)V" } : Jvm.MethodName) prog_29_method_1_code (8 : Nat) (Option.none : Option Jvm.ClassFile.FieldType), Jvm.Cond.code ({ cls := "java/lang/Record", name := "<init>", desc := "()V" } : Jvm.MethodName) jdk_30_method_1_code (1 : Nat) (Option.none : Option Jvm.ClassFile.FieldType), Jvm.Cond.code ({ cls := "java/lang/Object", name := "<init>", desc := "()V" } : Jvm.MethodName) object_method_1_code (1 : Nat) (Option.none : Option Jvm.ClassFile.FieldType), Jvm.Cond.code ({ cls := "com/example/tallygate/tallygate/core/Sequences$Run", name := "number", desc := "(I)J" } : Jvm.MethodName) prog_29_method_2_code (2 : Nat) (Option.some Jvm.ClassFile.FieldType.long)]
set_option maxRecDepth 65536 in
theorem codes_eq : words1.filter isCode = codes1 := rfl
theorem w_codes : ∀ c ∈ words1.filter isCode, c.before args0 about1 = true := by
  rw [codes_eq]
  intro c hc
  simp only [codes1, List.mem_cons, List.not_mem_nil, or_false] at hc
  rcases hc with rfl | rfl | rfl | rfl | rfl | rfl
  · exact w_c0
  · exact w_c1
  · exact w_c2
  · exact w_c3
  · exact w_c4
  · exact w_c5
set_option maxRecDepth 65536 in
theorem w_t1 : (words1.take 24).all (fun c => isCode c || c.before args0 about1) = true := by decide +kernel
set_option maxRecDepth 65536 in
theorem w_t2 : (words1.drop 24).all (fun c => isCode c || c.before args0 about1) = true := by decide +kernel
theorem w_tables : (allAtoms (Jvm.Cond.code x code maxLocals ret :: tables_1)).before args0 about1 = true := by
  rw [allAtoms_all]
  show words1.all (fun c => c.before args0 about1) = true
  refine all_split ?_ w_codes
  rw [← List.take_append_drop 24 words1, List.all_append, w_t1, w_t2]
  rfl
set_option maxRecDepth 65536 in
theorem w_case : (Jvm.Cond.and given_1 narrow_1).before args0 about1 = true := by decide +kernel
theorem w_applies : (headSpec (Jvm.Cond.code x code maxLocals ret :: tables_1) room_1).applies x e0.platform about1 = true :=
  (Spec.applies_iff w_frames).mpr ⟨w_running, w_runnable, w_alone, w_named, w_hears, w_ripe, w_room, w_tables⟩
theorem atStart : AtStart classFile x code maxLocals ret World_1 tables_1 room_1 Calls_1 rest_1 Pre_1 launch0 p0 e0 about1 theMethod args0 below0 :=
  ⟨lists_1, trivial, launch0.admits_env _ _ _, launch0.least_env, fairChoices_fair.cas, fairChoices_fair.clock, w_frames, w_args, w_heap, w_applies, trivial, trivial, w_case⟩
end start1
theorem witness_1 : WitnessClaimed_1 := ⟨start1.p0, start1.e0, start1.about1, start1.theMethod, start1.args0, start1.below0, start1.atStart⟩
end Jvm.Pilot.@@N@@
