import JvmDerived
import JvmDerived.Pilot.@@N@@Statement
import JvmDerived.Pilot.@@N@@Code
set_option linter.unusedVariables false
set_option linter.unusedSimpArgs false
namespace Jvm.Pilot.@@N@@
open Jvm Jvm.ClassFile Sem Op Lib Jvm.Free Jvm.Stand Jvm.LawKit Jvm.RoadKit Bundle Jvm.Pilot.@@N@@.Jvm.D
section Own
variable {p : Program} {l : Launch} {e : Env} {R : Room} {s : State} {m : MethodId} {args : Array Value} {below : List Frame} {meth : Method} {c : Code} {T T' : State} {locs : List Loc} {cells slots C S : Nat} {Qv : Option Value → Heap → List Loc → Prop} {Z : State} {a0 : Array Value} {h : Heap}
/-- from here, with this frame on top, the method returns, Qv holds of what it returns, of the heap and of what was written, within C cells and S slots -/
def own_Ends (p : Program) (e : Env) (below : List Frame) (s : State) (C S : Nat) (Qv : Option Value → Heap → List Loc → Prop) (T : State) (g : JFrame) : Prop :=
  ∃ (s₂ : State) (o : Outcome), Steps p.tables e below (T.setTop g) s₂ ∧ s₂.status = .running ∧ Ended s₂ below o ∧ ∃ v L, o = .returned v ∧ Qv v s₂.heap L ∧ FrameEnd s o s₂ L C S
theorem own_go {g : JFrame} (g' : JFrame) (st : ∀ t, Steps p.tables e below (T'.setTop g') t → Steps p.tables e below (T.setTop g) t) (k : own_Ends p e below s C S Qv T' g') : own_Ends p e below s C S Qv T g := by
  obtain ⟨s₂, o, h1, h⟩ := k
  exact ⟨s₂, o, st _ h1, h⟩
theorem own_ret (X : Stand p l e R s m args below meth c T locs cells slots) (hlk : meth.locks = false) {g : JFrame} {v : Option Value} (hv : meth.sig.returnType = none → v = none)
    (st : ∀ fs, (∀ (f : JFrame) (acts : List Action), f.method = m → f.locked = none → f.entered = [] → (doReturn e (T.setTop f) acts v).1 = T.setFrames fs) → Steps p.tables e below (T.setTop g) (T.setFrames fs))
    (hC : cells ≤ C) (hS : slots ≤ S) (hQ : Qv v T.heap locs) : own_Ends p e below s C S Qv T g := by
  obtain ⟨fs, hr, hrun, hended, hW, hsame⟩ := X.leave (v := v) hv hlk
  exact ⟨_, _, st fs hr, hrun, hended, v, locs, rfl, hQ, ⟨_, rfl⟩, hW, hsame.mono hC hS⟩
theorem own_retI (X : Stand p l e R s m args below meth c T locs cells slots) (hx : p.tables.exec = Jvm.exec) (hlk : meth.locks = false) {pc : Nat} {Ls : Array Slot} {z : Int32} {rest : List Value} {t : FieldType} (hret : meth.sig.returnType = some t)
    (ht : t = .int ∨ t = .boolean ∨ t = .byte ∨ t = .char ∨ t = .short) (hn : narrow t (.int z) = .int z) (hd : decode c.code pc = .ok (.ireturn, 1)) (hC : cells ≤ C) (hS : slots ≤ S) (hQ : Qv (some (.int z)) T.heap locs) : own_Ends p e below s C S Qv T (mkF m pc Ls (.int z :: rest)) :=
  own_ret X hlk (fun h => by rw [hret] at h; cases h) (fun fs hr => retOut X hx hret hn (Or.inl ⟨rfl, ht, _, rfl⟩) hd hr) hC hS hQ
theorem own_retN (X : Stand p l e R s m args below meth c T locs cells slots) (hx : p.tables.exec = Jvm.exec) (hlk : meth.locks = false) {pc : Nat} {Ls : Array Slot} {z : Int32} {rest : List Value} {t : FieldType} (hret : meth.sig.returnType = some t)
    (ht : t = .boolean ∨ t = .byte ∨ t = .char ∨ t = .short) (hd : decode c.code pc = .ok (.ireturn, 1)) (hC : cells ≤ C) (hS : slots ≤ S) (hQ : Qv (some (.int (nar t z))) T.heap locs) : own_Ends p e below s C S Qv T (mkF m pc Ls (.int z :: rest)) :=
  own_ret X hlk (fun h => by rw [hret] at h; cases h) (fun fs hr => retN X hx hret ht hd hr) hC hS hQ
theorem own_retL (X : Stand p l e R s m args below meth c T locs cells slots) (hx : p.tables.exec = Jvm.exec) (hlk : meth.locks = false) {pc : Nat} {Ls : Array Slot} {z : Int64} {rest : List Value} (hret : meth.sig.returnType = some .long)
    (hd : decode c.code pc = .ok (.lreturn, 1)) (hC : cells ≤ C) (hS : slots ≤ S) (hQ : Qv (some (.long z)) T.heap locs) : own_Ends p e below s C S Qv T (mkF m pc Ls (.long z :: rest)) :=
  own_ret X hlk (fun h => by rw [hret] at h; cases h) (fun fs hr => retOut X hx hret rfl (Or.inr (Or.inl ⟨rfl, rfl, _, rfl⟩)) hd hr) hC hS hQ
theorem own_retA (X : Stand p l e R s m args below meth c T locs cells slots) (hx : p.tables.exec = Jvm.exec) (hlk : meth.locks = false) {pc : Nat} {Ls : Array Slot} {z : Addr} {rest : List Value} {t : FieldType} (hret : meth.sig.returnType = some t) (ht : t.isReference = true) (hn : narrow t (.ref z) = .ref z)
    (hd : decode c.code pc = .ok (.areturn, 1)) (hC : cells ≤ C) (hS : slots ≤ S) (hQ : Qv (some (.ref z)) T.heap locs) : own_Ends p e below s C S Qv T (mkF m pc Ls (.ref z :: rest)) :=
  own_ret X hlk (fun h => by rw [hret] at h; cases h) (fun fs hr => retOut X hx hret hn (Or.inr (Or.inr (Or.inr (Or.inr ⟨rfl, ht, rfl⟩)))) hd hr) hC hS hQ
theorem own_ret0 (X : Stand p l e R s m args below meth c T locs cells slots) (hx : p.tables.exec = Jvm.exec) (hlk : meth.locks = false) {pc : Nat} {Ls : Array Slot} (hret : meth.sig.returnType = none)
    (hd : decode c.code pc = .ok (.return_, 1)) (hC : cells ≤ C) (hS : slots ≤ S) (hQ : Qv none T.heap locs) : own_Ends p e below s C S Qv T (mkF m pc Ls []) :=
  own_ret X hlk (fun _ => rfl) (fun fs hr => X.returnOut hx hret hd hr) hC hS hQ
/-- a contract out of its body's walk -/
theorem own_met {y : MethodName} {bytes : ByteArray} {maxL : Nat} {ret : Option FieldType} {ws : List Jvm.Cond} {rm : Room} {as' : Array Value} {h0 : Heap} (hp : plainFor y = true)
    (body : ∀ (p : Program) (e : Env) (s : State) (m : MethodId) (below : List Frame) (meth : Method) (c : Code) (T : State), p.tables.exec = Jvm.exec → c.code = bytes → c.maxLocals = maxL → s.vm.findClass y.cls = some m.cls → meth.sig.returnType = ret → meth.locks = false → meth.name = y.name → Z.Warmed39 s.vm → Stand p l e rm s m as' below meth c T [] 0 0 → T.heap = h0 → own_Ends p e below s rm.cells rm.slots Qv T (entryFrame m as' maxL)) :
    MetFree l y (head1 (Jvm.Cond.code y bytes maxL ret :: ws) rm) (fun a U => a = as' ∧ Z.Warmed39 U.vm ∧ U.heap = h0) (fun _ _ _ _ _ => True) (fun _ U o U' => ∃ v L, o = .returned v ∧ Qv v U'.heap L ∧ FrameEnd U o U' L rm.cells rm.slots) := by
  refine MetFree.of_bodySF hp hisR ?_
  intro p e s m args below meth c s₁ Bd hml0 hP hK
  obtain ⟨rfl, hZ, hh⟩ := hP
  exact body p e s m below meth c s₁ Bd.exec Bd.bytes hml0 (findClass_of_methodNamed Bd.named) Bd.returns Bd.notSynchronized ((name_of_methodNamed Bd.named Bd.method).1) hZ (Stand.of_body Bd) (by rw [← hh, Bd.state]; rfl)
/-- what a callee's contract says (as' its arguments, h the heap where it is called) -/
abbrev own_Met (l : Launch) (Z : State) (y : MethodName) (bytes : ByteArray) (maxL : Nat) (ret : Option FieldType) (rm : Room) (as' : Array Value) (h : Heap) (Q : Option Value → Heap → List Loc → Prop) : Prop :=
  MetFree l y (head1 [Jvm.Cond.code y bytes maxL ret] rm) (fun a U => a = as' ∧ Z.Warmed39 U.vm ∧ U.heap = h) (fun _ _ _ _ _ => True) (fun _ U o U' => ∃ v L, o = .returned v ∧ Q v U'.heap L ∧ FrameEnd U o U' L rm.cells rm.slots)
theorem own_callS (X : Stand p l e R s m args below meth c T locs cells slots) (hx : p.tables.exec = Jvm.exec) (hZ : Z.Warmed39 s.vm) {own : String} {index : Nat} {y : MethodName} {bytes : ByteArray} {maxL : Nat} {ret : Option FieldType} {rm : Room} {as' : Array Value} {Q : Option Value → Heap → List Loc → Prop}
    (hown : s.vm.findClass own = some m.cls) (w1 : (Jvm.Cond.methodLink own index y).before a0 Z = true) (w2 : (Jvm.Cond.static y).before a0 Z = true) (w3 : (Jvm.Cond.initialized y.cls).before a0 Z = true) (w4 : (Jvm.Cond.code y bytes maxL ret).before a0 Z = true)
    (hy : y.cls ≠ "java/lang/invoke/MethodHandle" ∧ y.cls ≠ "java/lang/invoke/VarHandle") (eT : T.heap = h) (hM : own_Met l Z y bytes maxL ret rm as' h Q)
    (W : Nat) (hf : rm.frames + 1 ≤ R.frames) (hl : W + (maxL + 11) + rm.locals ≤ R.locals) (hC : cells + rm.cells ≤ R.cells) (hS : slots + rm.slots ≤ R.slots)
    {g : JFrame} (hg : g.method = m) (hsize : g.locals.size = c.maxLocals) (argsL rest : List Value) (hlen : ∀ sig, parseMethodDescriptor y.desc = some sig → argsL.length = sig.parameters.length)
    (hstack : g.stack = argsL.reverse ++ rest) (has : argsL.toArray = as') (hW : 2 * g.monitorRoom + (rest.map fun v => v.category).sum ≤ W) (hd : decode c.code g.pc = .ok (.invokestatic index, 3))
    (k : ∀ v T' h' L, Stand p l e R s m args below meth c T' (locs ++ L) (cells + rm.cells) (slots + rm.slots) → T'.heap = h' → Q v h' L → own_Ends p e below s C S Qv T' { g with pc := g.pc + 3, stack := v.toList ++ rest }) : own_Ends p e below s C S Qv T g := by
  obtain ⟨v, _, ⟨T', L', k', n'⟩, -, X', ⟨Lc, hQ, l1, y1, z1⟩, st⟩ := Jvm.LawKit.callS X hx (y := y) hown (mvT hZ w1) (mvT hZ w2) (mvT hZ w3) (mvT hZ w4) hy (backOf (W := W) hM hZ w4 w3 hf hl) (g := g) hg hsize (argsL := argsL) (rest := rest) hlen hstack hW hd (fun _ _ => ⟨has, eT, hC, hS⟩)
  dsimp only [Pt.U, Pt.locs, Pt.cells, Pt.slots] at X' l1 y1 z1 st hQ
  subst l1 y1 z1
  exact own_go _ st (k v T' _ Lc X' rfl hQ)
theorem own_callI (X : Stand p l e R s m args below meth c T locs cells slots) (hx : p.tables.exec = Jvm.exec) (hZ : Z.Warmed39 s.vm) {own : String} {index : Nat} {y : MethodName} {bytes : ByteArray} {maxL : Nat} {rm : Room} {as' : Array Value} {Q : Option Value → Heap → List Loc → Prop}
    (hown : s.vm.findClass own = some m.cls) (hy1 : y.name = "<init>") (w1 : (Jvm.Cond.methodLink own index y).before a0 Z = true) (w2 : (Jvm.Cond.instanceMethod y).before a0 Z = true) (w3 : (Jvm.Cond.initialized y.cls).before a0 Z = true) (w4 : (Jvm.Cond.code y bytes maxL none).before a0 Z = true)
    (hy : y.cls ≠ "java/lang/invoke/MethodHandle" ∧ y.cls ≠ "java/lang/invoke/VarHandle") (eT : T.heap = h) (hM : own_Met l Z y bytes maxL none rm as' h Q)
    (W : Nat) (hf : rm.frames + 1 ≤ R.frames) (hl : W + (maxL + 11) + rm.locals ≤ R.locals) (hC : cells + rm.cells ≤ R.cells) (hS : slots + rm.slots ≤ R.slots)
    {g : JFrame} (hg : g.method = m) (hsize : g.locals.size = c.maxLocals) (a : Addr) (argsL rest : List Value) (hlen : ∀ sig, parseMethodDescriptor y.desc = some sig → argsL.length = sig.parameters.length)
    (hstack : g.stack = argsL.reverse ++ .ref a :: rest) (has : (Value.ref a :: argsL).toArray = as') (hW : 2 * g.monitorRoom + (rest.map fun v => v.category).sum ≤ W) (hd : decode c.code g.pc = .ok (.invokespecial index, 3))
    (k : ∀ v T' h' L, Stand p l e R s m args below meth c T' (locs ++ L) (cells + rm.cells) (slots + rm.slots) → T'.heap = h' → Q v h' L → own_Ends p e below s C S Qv T' { g with pc := g.pc + 3, stack := v.toList ++ rest }) : own_Ends p e below s C S Qv T g := by
  obtain ⟨v, _, ⟨T', L', k', n'⟩, -, X', ⟨Lc, hQ, l1, y1, z1⟩, st⟩ := Jvm.LawKit.callI X hx (y := y) hown hy1 (mvT hZ w1) (mvT hZ w2) (mvT hZ w4) hy (backOf (W := W) hM hZ w4 w3 hf hl) (g := g) hg hsize (a := a) (argsL := argsL) (rest := rest) hlen hstack hW hd (fun _ _ => ⟨has, eT, hC, hS⟩)
  dsimp only [Pt.U, Pt.locs, Pt.cells, Pt.slots] at X' l1 y1 z1 st hQ
  subst l1 y1 z1
  exact own_go _ st (k v T' _ Lc X' rfl hQ)
theorem own_callV (X : Stand p l e R s m args below meth c T locs cells slots) (hx : p.tables.exec = Jvm.exec) (hZ : Z.Warmed39 s.vm) {own C0 : String} {index : Nat} {y : MethodName} {bytes : ByteArray} {maxL : Nat} {ret : Option FieldType} {rm : Room} {as' : Array Value} {Q : Option Value → Heap → List Loc → Prop}
    (hown : s.vm.findClass own = some m.cls) (w1 : (Jvm.Cond.methodLink own index y).before a0 Z = true) (w5 : (Jvm.Cond.declares y).before a0 Z = true) (w6 : (Jvm.Cond.selects C0 y y).before a0 Z = true) (w2 : (Jvm.Cond.instanceMethod y).before a0 Z = true) (w3 : (Jvm.Cond.initialized y.cls).before a0 Z = true) (w4 : (Jvm.Cond.code y bytes maxL ret).before a0 Z = true)
    (hy : y.cls ≠ "java/lang/invoke/MethodHandle" ∧ y.cls ≠ "java/lang/invoke/VarHandle") (eT : T.heap = h) (a : Addr) (E : Exa Z h a C0) (hM : own_Met l Z y bytes maxL ret rm as' h Q)
    (W : Nat) (hf : rm.frames + 1 ≤ R.frames) (hl : W + (maxL + 11) + rm.locals ≤ R.locals) (hC : cells + rm.cells ≤ R.cells) (hS : slots + rm.slots ≤ R.slots)
    {g : JFrame} (hg : g.method = m) (hsize : g.locals.size = c.maxLocals) (argsL rest : List Value) (hlen : ∀ sig, parseMethodDescriptor y.desc = some sig → argsL.length = sig.parameters.length)
    (hstack : g.stack = argsL.reverse ++ .ref a :: rest) (has : (Value.ref a :: argsL).toArray = as') (hW : 2 * g.monitorRoom + (rest.map fun v => v.category).sum ≤ W) (hd : decode c.code g.pc = .ok (.invokevirtual index, 3))
    (k : ∀ v T' h' L, Stand p l e R s m args below meth c T' (locs ++ L) (cells + rm.cells) (slots + rm.slots) → T'.heap = h' → Q v h' L → own_Ends p e below s C S Qv T' { g with pc := g.pc + 3, stack := v.toList ++ rest }) : own_Ends p e below s C S Qv T g := by
  obtain ⟨cq, kq, q1, q2, q3⟩ := isOf hZ eT E
  obtain ⟨v, _, ⟨T', L', k', n'⟩, -, X', ⟨Lc, hQ, l1, y1, z1⟩, st⟩ := X.virtualBack hx (y := y) (z := y) hown (mvT hZ w1) (mvT hZ w5) (notFace_of_selects (args := #[]) (mvT hZ w6)) (mvT hZ w6) (mvT hZ w2) hy (backOf (W := W) hM hZ w4 w3 hf hl) q1 q3 (g := g) hg hsize (Steps.refl _) (argsL := argsL) (rest := rest) hlen hstack hW hd (fun _ _ => ⟨has, eT, hC, hS⟩)
  dsimp only [Pt.U, Pt.locs, Pt.cells, Pt.slots] at X' l1 y1 z1 st hQ
  subst l1 y1 z1
  exact own_go _ (fun t q => st.trans q) (k v T' _ Lc X' rfl hQ)
theorem own_callP (X : Stand p l e R s m args below meth c T locs cells slots) (hx : p.tables.exec = Jvm.exec) (hZ : Z.Warmed39 s.vm) {own C0 : String} {index kk : Nat} {y : MethodName} {bytes : ByteArray} {maxL : Nat} {ret : Option FieldType} {rm : Room} {as' : Array Value} {Q : Option Value → Heap → List Loc → Prop}
    (hown : s.vm.findClass own = some m.cls) (w1 : (Jvm.Cond.methodLink own index y).before a0 Z = true) (w2 : (Jvm.Cond.instanceMethod y).before a0 Z = true) (wi : (Jvm.Cond.instantiable y.cls kk).before a0 Z = true) (w5 : (Jvm.Cond.privateMethod y).before a0 Z = true) (w3 : (Jvm.Cond.initialized y.cls).before a0 Z = true) (w4 : (Jvm.Cond.code y bytes maxL ret).before a0 Z = true)
    (hy : y.cls ≠ "java/lang/invoke/MethodHandle" ∧ y.cls ≠ "java/lang/invoke/VarHandle") (eT : T.heap = h) (a : Addr) (E : Exa Z h a C0) (hM : own_Met l Z y bytes maxL ret rm as' h Q)
    (W : Nat) (hf : rm.frames + 1 ≤ R.frames) (hl : W + (maxL + 11) + rm.locals ≤ R.locals) (hC : cells + rm.cells ≤ R.cells) (hS : slots + rm.slots ≤ R.slots)
    {g : JFrame} (hg : g.method = m) (hsize : g.locals.size = c.maxLocals) (argsL rest : List Value) (hlen : ∀ sig, parseMethodDescriptor y.desc = some sig → argsL.length = sig.parameters.length)
    (hstack : g.stack = argsL.reverse ++ .ref a :: rest) (has : (Value.ref a :: argsL).toArray = as') (hW : 2 * g.monitorRoom + (rest.map fun v => v.category).sum ≤ W) (hd : decode c.code g.pc = .ok (.invokevirtual index, 3))
    (k : ∀ v T' h' L, Stand p l e R s m args below meth c T' (locs ++ L) (cells + rm.cells) (slots + rm.slots) → T'.heap = h' → Q v h' L → own_Ends p e below s C S Qv T' { g with pc := g.pc + 3, stack := v.toList ++ rest }) : own_Ends p e below s C S Qv T g := by
  obtain ⟨cq, q1, q2⟩ := E.cell
  have hp := Cond.privateMethod_at (mvP hZ w5 (args := #[]))
  obtain ⟨c2, k2, i1, i2, i3, i4, -⟩ := Cond.instantiable_spec (mvT (args := args) hZ wi)
  have hni : k2.isInterface = false := (Bool.or_eq_false_iff.mp i4).1
  have w6 := selects_self_of_private i1 i2 hni hp (mvT (args := args) hZ w2) hy
  obtain ⟨v, _, ⟨T', L', k', n'⟩, -, X', ⟨Lc, hQ, l1, y1, z1⟩, st⟩ := X.privateBack hx (y := y) hown (mvT hZ w1) (mvT hZ w2) w6 hp (mvT hZ w4) hy (backOf (W := W) hM hZ w4 w3 hf hl) (g := g) hg hsize (Steps.refl _) (a := a) (by rw [eT]; exact q1) q2 (argsL := argsL) (rest := rest) hlen hstack hW hd (fun _ _ => ⟨has, eT, hC, hS⟩)
  dsimp only [Pt.U, Pt.locs, Pt.cells, Pt.slots] at X' l1 y1 z1 st hQ
  subst l1 y1 z1
  exact own_go _ (fun t q => st.trans q) (k v T' _ Lc X' rfl hQ)
abbrev own_rel (cd : ClassFile.Cond) (a b : Int) : Prop := match cd with | .eq => a = b | .ne => ¬ a = b | .lt => a < b | .ge => b ≤ a | .gt => b < a | .le => a ≤ b
theorem own_icT {cd : ClassFile.Cond} {x y : Int32} (h : own_rel cd x.toInt y.toInt) : if_icmp.holds cd x y = true := by
  cases cd <;> simp [own_rel] at h <;> simp [if_icmp.holds, Int32.lt_iff_toInt_lt, Int32.le_iff_toInt_le, ← Int32.toInt_inj, h]
theorem own_icF {cd : ClassFile.Cond} {x y : Int32} (h : ¬ own_rel cd x.toInt y.toInt) : if_icmp.holds cd x y = false := by
  cases cd <;> simp [own_rel] at h <;> simp [if_icmp.holds, Int32.lt_iff_toInt_lt, Int32.le_iff_toInt_le, ← Int32.toInt_inj, h]
theorem own_zT {cd : ClassFile.Cond} {x : Int32} (h : own_rel cd x.toInt 0) : ifCond.holds cd x = true := (if0 cd x).trans (own_icT h)
theorem own_zF {cd : ClassFile.Cond} {x : Int32} (h : ¬ own_rel cd x.toInt 0) : ifCond.holds cd x = false := (if0 cd x).trans (own_icF h)
theorem own_cmp (cd : ClassFile.Cond) (x y : Int64) : own_rel cd (lcmpW x y).toInt 0 ↔ own_rel cd x.toInt y.toInt := by
  have h := c_lcmp x y
  cases cd <;> simp only [own_rel] <;> omega
theorem own_lcT {cd : ClassFile.Cond} {x y : Int64} (h : own_rel cd x.toInt y.toInt) : ifCond.holds cd (lcmpW x y) = true := own_zT ((own_cmp cd x y).mpr h)
theorem own_lcF {cd : ClassFile.Cond} {x y : Int64} (h : ¬ own_rel cd x.toInt y.toInt) : ifCond.holds cd (lcmpW x y) = false := own_zF (fun q => h ((own_cmp cd x y).mp q))
theorem own_xorm1 (x : Int64) : (x ^^^ (-1 : Int64)).toInt = -x.toInt - 1 := by
  have h : x ^^^ (-1 : Int64) = ~~~x := by
    apply Int64.toBitVec_inj.mp
    show x.toBitVec ^^^ BitVec.ofInt 64 (-1) = ~~~x.toBitVec
    have : BitVec.ofInt 64 (-1) = BitVec.allOnes 64 := by decide
    rw [this, BitVec.xor_allOnes]
  rw [h, Int64.toInt_not]
  have := rng64 x
  have e : (-x.toInt - 1).bmod (2 ^ 64) = -x.toInt - 1 := by
    rw [Int.bmod_eq_of_le] <;> omega
  first | exact e | omega
theorem own_nz32 {y : Int32} (h : ¬ y.toInt = 0) : y ≠ 0 := fun q => h (by rw [q]; rfl)
theorem own_nz64 {y : Int64} (h : ¬ y.toInt = 0) : y ≠ 0 := fun q => h (by rw [q]; rfl)
theorem own_lremV (x y : Int64) : 0 ≤ x.toInt → 0 < y.toInt → 0 ≤ (x - (x / y) * y).toInt ∧ (x - (x / y) * y).toInt < y.toInt ∧ (x - (x / y) * y).toInt ≤ x.toInt := by
  intro h0 h1
  rw [(c_lrem x y y.toInt rfl).1 h0]
  refine ⟨Int.emod_nonneg _ (by omega), Int.emod_lt_of_pos _ h1, ?_⟩
  have := Int.emod_add_mul_ediv x.toInt y.toInt
  have h2 : 0 ≤ x.toInt / y.toInt := Int.ediv_nonneg h0 (by omega)
  have h3 : 0 ≤ y.toInt * (x.toInt / y.toInt) := Int.mul_nonneg (by omega) h2
  omega
theorem own_iremV (x y : Int32) : 0 ≤ x.toInt → 0 < y.toInt → 0 ≤ (x % y).toInt ∧ (x % y).toInt < y.toInt ∧ (x % y).toInt ≤ x.toInt := fun h0 h1 =>
  have h := (c_iremV x y).1 h0 h1
  ⟨h.1, h.2.1, h.2.2.1⟩
end Own
section OwnArr
variable {p : Program} {l : Launch} {e : Env} {R : Room} {s : State} {m : MethodId} {args : Array Value} {below : List Frame} {meth : Method} {c : Code} {T T' : State} {locs : List Loc} {cells slots C S : Nat} {Qv : Option Value → Heap → List Loc → Prop} {Z : State} {a0 : Array Value} {h h' : Heap} {a b : Addr} {ty : FieldType} {n sl : Nat} {f : Nat → Value} {v : Value}
/-- an array of kind ty, n long, whose i-th place holds f i -/
def own_Av (Z : State) (h : Heap) (a : Addr) (ty : FieldType) (n : Nat) (f : Nat → Value) : Prop := ∃ c : Cell, Arr Z h a c ty ∧ c.slots.size = n ∧ ∀ i, i < n → c.slots[i]? = some (f i)
theorem own_Av.lt (F : own_Av Z h a ty n f) : a < h.size := by obtain ⟨c, A, -⟩ := F; exact A.lt
theorem own_Av.ext (F : own_Av Z h a ty n f) (E : Ext h h') : own_Av Z h' a ty n f := by obtain ⟨c, A, r⟩ := F; exact ⟨c, A.ext E, r⟩
theorem own_Av.other (F : own_Av Z h b ty n f) (W : Wr h h' a sl v) (q : b ≠ a) : own_Av Z h' b ty n f := by obtain ⟨c, A, r⟩ := F; exact ⟨c, A.other W q, r⟩
theorem own_Av.keep {ws : List Addr} (F : own_Av Z h a ty n f) (K : Keep h h' ws) (q : a ∉ ws) : own_Av Z h' a ty n f := by obtain ⟨c, A, r⟩ := F; exact ⟨c, ⟨K.2.1 a c A.1 q, A.2⟩, r⟩
theorem own_Av.set (F : own_Av Z h a ty n f) {j : Nat} (W : Wr h h' a j v) : own_Av Z h' a ty n (fun i => if i = j then v else f i) := by
  obtain ⟨c, A, hs, H⟩ := F
  refine ⟨c.setSlot j v, A.same W, by rw [sz_set]; exact hs, fun i hi => ?_⟩
  have hj : j < c.slots.size ∨ ¬ j < c.slots.size := Classical.em _
  show (c.slots.setIfInBounds j v)[i]? = some (if i = j then v else f i)
  by_cases q : i = j
  · subst q; simp [hs, hi]
  · rw [if_neg q, Array.getElem?_setIfInBounds_ne (Ne.symm q)]; exact H i hi
abbrev own_AI (Z : State) (h : Heap) (a : Addr) (ty : FieldType) (n : Nat) (F : Nat → Int32) : Prop := own_Av Z h a ty n (fun i => .int (F i))
abbrev own_AL (Z : State) (h : Heap) (a : Addr) (n : Nat) (F : Nat → Int64) : Prop := own_Av Z h a .long n (fun i => .long (F i))
theorem own_Av.eq {f' : Nat → Value} (F : own_Av Z h a ty n f) (q : ∀ i, i < n → f i = f' i) : own_Av Z h a ty n f' := by obtain ⟨c, A, hs, H⟩ := F; exact ⟨c, A, hs, fun i hi => by rw [← q i hi]; exact H i hi⟩
theorem own_idx {j : Int32} (h0 : 0 ≤ j.toInt) (h1 : j.toInt < n) : ¬ (j < 0 ∨ n ≤ j.toNatClampNeg) ∧ j.toNatClampNeg = j.toInt.toNat := by
  have e : j.toNatClampNeg = j.toInt.toNat := rfl
  refine ⟨fun q => ?_, e⟩
  rcases q with q | q
  · rw [Int32.lt_iff_toInt_lt] at q; have : (0 : Int32).toInt = 0 := rfl; omega
  · rw [e] at q; omega
theorem own_nn {j : Int32} (h0 : 0 ≤ j.toInt) : ¬ j < 0 := fun q => by rw [Int32.lt_iff_toInt_lt] at q; have : (0 : Int32).toInt = 0 := rfl; omega
theorem own_newarr (X : Stand p l e R s m args below meth c T locs cells slots) (hx : p.tables.exec = Jvm.exec) (hZ : Z.Warmed39 s.vm) {aty : ArrayType} (w : (Jvm.Cond.arrayClass (newarray.typeOf aty)).before a0 Z = true) (eT : T.heap = h) {g : JFrame} (hg : g.method = m) (hd : decode c.code g.pc = .ok (.newarray aty, 2)) {z : Int32} {rest : List Value} (hs : g.stack = .int z :: rest)
    (hz : 0 ≤ z.toInt) (cap : Nat) (hcap : z.toInt ≤ cap) (hb : cap * 8 ≤ 536870912) (hc : cells + 1 ≤ R.cells) (hl : slots + cap ≤ R.slots)
    (k : ∀ T' h' b, Stand p l e R s m args below meth c T' locs (cells + 1) (slots + cap) → T'.heap = h' → Ext h h' → b = h.size → own_Av Z h' b (newarray.typeOf aty) z.toInt.toNat (fun _ => defaultValue (newarray.typeOf aty)) → own_Ends p e below s C S Qv T' { g with pc := g.pc + 2, stack := .ref b :: rest }) : own_Ends p e below s C S Qv T g := by
  have e1 : z.toNatClampNeg = z.toInt.toNat := rfl
  obtain ⟨T', h', cA, X', e', E, A, st⟩ := newP X hx hZ w eT hg hd hs (own_nn hz) (cap := cap) (by rw [e1]; omega) hb hc hl
  refine own_go _ st (k T' h' _ X' e' E rfl ⟨_, A, sz_new _ _ _, fun i hi => ?_⟩)
  show (Array.replicate _ _)[i]? = _
  rw [Array.getElem?_replicate, if_pos (by rw [e1]; exact hi)]
theorem own_alen (X : Stand p l e R s m args below meth c T locs cells slots) (hx : p.tables.exec = Jvm.exec) (hZ : Z.Warmed39 s.vm) (eT : T.heap = h) (A : own_Av Z h a ty n f) (z : Int32) (hz : z.toInt = n) {g : JFrame} (hg : g.method = m) {rest : List Value} (hs : g.stack = .ref a :: rest) (hd : decode c.code g.pc = .ok (.arraylength, 1))
    (k : own_Ends p e below s C S Qv T { g with pc := g.pc + 1, stack := .int z :: rest }) : own_Ends p e below s C S Qv T g := by
  obtain ⟨cl, A, hn, -⟩ := A
  have e1 : cl.slots.size.toInt32 = z := by
    rw [hn]
    have r := rng32 z
    apply Int32.toInt_inj.mp
    rw [hz]
    show (Int32.ofNat n).toInt = n
    rw [Int32.toInt_ofNat_of_lt (by omega)]
  refine own_go _ (fun t q => X.arraylength hx (by rw [eT]; exact A.1) (State.isArrayOf_alike hZ.alike A.2.1) hg hs hd t (by rw [e1]; exact q)) k
theorem own_iaload (X : Stand p l e R s m args below meth c T locs cells slots) (hx : p.tables.exec = Jvm.exec) (hZ : Z.Warmed39 s.vm) (eT : T.heap = h) {F : Nat → Int32} (A : own_AI Z h a .int n F) {j : Int32} (h0 : 0 ≤ j.toInt) (h1 : j.toInt < n) {g : JFrame} (hg : g.method = m) {rest : List Value} (hs : g.stack = .int j :: .ref a :: rest) (hd : decode c.code g.pc = .ok (.iaload, 1))
    (k : own_Ends p e below s C S Qv T { g with pc := g.pc + 1, stack := .int (F j.toInt.toNat) :: rest }) : own_Ends p e below s C S Qv T g := by
  obtain ⟨cl, A, hn, H⟩ := A
  have q := own_idx h0 h1
  exact own_go _ (fun t r => X.iaload hx (by rw [eT]; exact A.1) (State.isArrayOf_alike hZ.alike A.2.1) A.2.2 (by rw [hn]; exact q.1) (by rw [q.2]; exact H _ (by omega)) hg hs hd t r) k
theorem own_baload (X : Stand p l e R s m args below meth c T locs cells slots) (hx : p.tables.exec = Jvm.exec) (hZ : Z.Warmed39 s.vm) (eT : T.heap = h) {F : Nat → Int32} (A : own_AI Z h a .byte n F) {j : Int32} (h0 : 0 ≤ j.toInt) (h1 : j.toInt < n) {g : JFrame} (hg : g.method = m) {rest : List Value} (hs : g.stack = .int j :: .ref a :: rest) (hd : decode c.code g.pc = .ok (.baload, 1))
    (k : own_Ends p e below s C S Qv T { g with pc := g.pc + 1, stack := .int (F j.toInt.toNat) :: rest }) : own_Ends p e below s C S Qv T g := by
  obtain ⟨cl, A, hn, H⟩ := A
  have q := own_idx h0 h1
  exact own_go _ (fun t r => X.baloadBytes hx (by rw [eT]; exact A.1) (State.isArrayOf_alike hZ.alike A.2.1) A.2.2 (by rw [hn]; exact q.1) (by rw [q.2]; exact H _ (by omega)) hg hs hd t r) k
theorem own_laload (X : Stand p l e R s m args below meth c T locs cells slots) (hx : p.tables.exec = Jvm.exec) (hZ : Z.Warmed39 s.vm) (eT : T.heap = h) {F : Nat → Int64} (A : own_AL Z h a n F) {j : Int32} (h0 : 0 ≤ j.toInt) (h1 : j.toInt < n) {g : JFrame} (hg : g.method = m) {rest : List Value} (hs : g.stack = .int j :: .ref a :: rest) (hd : decode c.code g.pc = .ok (.laload, 1))
    (k : own_Ends p e below s C S Qv T { g with pc := g.pc + 1, stack := .long (F j.toInt.toNat) :: rest }) : own_Ends p e below s C S Qv T g := by
  obtain ⟨cl, A, hn, H⟩ := A
  have q := own_idx h0 h1
  exact own_go _ (fun t r => X.laload hx (by rw [eT]; exact A.1) (State.isArrayOf_alike hZ.alike A.2.1) A.2.2 (by rw [hn]; exact q.1) (by rw [q.2]; exact H _ (by omega)) hg hs hd t r) k
theorem own_iastore (X : Stand p l e R s m args below meth c T locs cells slots) (hx : p.tables.exec = Jvm.exec) (hZ : Z.Warmed39 s.vm) (eT : T.heap = h) {F : Nat → Int32} (A : own_AI Z h a .int n F) {j : Int32} {x : Int32} (h0 : 0 ≤ j.toInt) (h1 : j.toInt < n) {g : JFrame} (hg : g.method = m) {rest : List Value} (hs : g.stack = .int x :: .int j :: .ref a :: rest) (hd : decode c.code g.pc = .ok (.iastore, 1))
    (k : ∀ T' h' F', Stand p l e R s m args below meth c T' (locs ++ [⟨a, j.toInt.toNat⟩]) cells slots → T'.heap = h' → Wr h h' a j.toInt.toNat (.int x) → (F' = fun i => if i = j.toInt.toNat then x else F i) → own_AI Z h' a .int n F' → own_Ends p e below s C S Qv T' { g with pc := g.pc + 1, stack := rest }) : own_Ends p e below s C S Qv T g := by
  obtain ⟨cl, Ar, hn, H⟩ := id A
  have q := own_idx h0 h1
  obtain ⟨T', h', X', e', W, st⟩ := stI X hx hZ eT Ar (j := j) (by rw [hn]; exact q.1) hg hs hd
  skip
  exact own_go _ st (k T' h' _ X' e' W rfl ((own_Av.set A W).eq fun i _ => by
    show (if i = j.toInt.toNat then Value.int x else Value.int (F i)) = Value.int (if i = j.toInt.toNat then x else F i)
    by_cases q : i = j.toInt.toNat
    · rw [if_pos q, if_pos q]
    · rw [if_neg q, if_neg q]))
theorem own_lastore (X : Stand p l e R s m args below meth c T locs cells slots) (hx : p.tables.exec = Jvm.exec) (hZ : Z.Warmed39 s.vm) (eT : T.heap = h) {F : Nat → Int64} (A : own_AL Z h a n F) {j : Int32} {x : Int64} (h0 : 0 ≤ j.toInt) (h1 : j.toInt < n) {g : JFrame} (hg : g.method = m) {rest : List Value} (hs : g.stack = .long x :: .int j :: .ref a :: rest) (hd : decode c.code g.pc = .ok (.lastore, 1))
    (k : ∀ T' h' F', Stand p l e R s m args below meth c T' (locs ++ [⟨a, j.toInt.toNat⟩]) cells slots → T'.heap = h' → Wr h h' a j.toInt.toNat (.long x) → (F' = fun i => if i = j.toInt.toNat then x else F i) → own_AL Z h' a n F' → own_Ends p e below s C S Qv T' { g with pc := g.pc + 1, stack := rest }) : own_Ends p e below s C S Qv T g := by
  obtain ⟨cl, Ar, hn, H⟩ := id A
  have q := own_idx h0 h1
  obtain ⟨T', h', X', e', W, st⟩ := stJ X hx hZ eT Ar (j := j) (by rw [hn]; exact q.1) hg hs hd
  skip
  exact own_go _ st (k T' h' _ X' e' W rfl ((own_Av.set A W).eq fun i _ => by
    show (if i = j.toInt.toNat then Value.long x else Value.long (F i)) = Value.long (if i = j.toInt.toNat then x else F i)
    by_cases q : i = j.toInt.toNat
    · rw [if_pos q, if_pos q]
    · rw [if_neg q, if_neg q]))
theorem own_bastore (X : Stand p l e R s m args below meth c T locs cells slots) (hx : p.tables.exec = Jvm.exec) (hZ : Z.Warmed39 s.vm) (eT : T.heap = h) {F : Nat → Int32} (A : own_AI Z h a .byte n F) {j : Int32} {x x0 : Int32} (h0 : 0 ≤ j.toInt) (h1 : j.toInt < n) (hy : nar .byte x0 = x) {g : JFrame} (hg : g.method = m) {rest : List Value} (hs : g.stack = .int x0 :: .int j :: .ref a :: rest) (hd : decode c.code g.pc = .ok (.bastore, 1))
    (k : ∀ T' h' F', Stand p l e R s m args below meth c T' (locs ++ [⟨a, j.toInt.toNat⟩]) cells slots → T'.heap = h' → Wr h h' a j.toInt.toNat (.int x) → (F' = fun i => if i = j.toInt.toNat then x else F i) → own_AI Z h' a .byte n F' → own_Ends p e below s C S Qv T' { g with pc := g.pc + 1, stack := rest }) : own_Ends p e below s C S Qv T g := by
  obtain ⟨cl, Ar, hn, H⟩ := id A
  have q := own_idx h0 h1
  obtain ⟨T', h', X', e', W, st⟩ := stB X hx hZ eT Ar (j := j) (by rw [hn]; exact q.1) hg hs hd
  rw [hy] at W
  exact own_go _ st (k T' h' _ X' e' W rfl ((own_Av.set A W).eq fun i _ => by
    show (if i = j.toInt.toNat then Value.int x else Value.int (F i)) = Value.int (if i = j.toInt.toNat then x else F i)
    by_cases q : i = j.toInt.toNat
    · rw [if_pos q, if_pos q]
    · rw [if_neg q, if_neg q]))
end OwnArr
section OwnCopy
variable {p : Program} {l : Launch} {e : Env} {R : Room} {s : State} {m : MethodId} {args : Array Value} {below : List Frame} {meth : Method} {c : Code} {T T' : State} {locs : List Loc} {cells slots C S : Nat} {Qv : Option Value → Heap → List Loc → Prop} {Z : State} {a0 : Array Value} {h h' : Heap} {a b : Addr} {n n' : Nat}
theorem own_toArv {F : Nat → Int32} (A : own_AI Z h a .int n F) {z : Int32} (hz : z.toInt = n) : ∃ k, Arv Z h a k .int z ((List.range n).map fun i => Value.int (F i)) (.int 0) := by
  obtain ⟨cl, A, hn, H⟩ := A
  have e1 : z.toNatClampNeg = z.toInt.toNat := rfl
  have g : ∀ i, i < n → ((List.range n).map fun i => Value.int (F i)).getD i (.int 0) = .int (F i) := fun i hi => by
    rw [List.getD_eq_getElem?_getD, List.getElem?_map, List.getElem?_range hi]; rfl
  refine ⟨cl.cls, cl, A, rfl, by rw [e1]; omega, own_nn (by omega), fun i hi => ?_, fun i hi => ?_⟩
  · rw [g i (by omega)]; exact H i (by omega)
  · rw [g i (by omega)]; rfl
theorem own_ofArv {G : Nat → Int32} {k : ClassId} {z : Int32} {vs : List Value} {d : Value} (A : Arv Z h a k .int z vs d) (hz : z.toInt = n) (hv : ∀ i, i < n → vs.getD i d = .int (G i)) : own_AI Z h a .int n G := by
  obtain ⟨cl, A, -, S, -, H, -⟩ := A
  have e1 : z.toNatClampNeg = z.toInt.toNat := rfl
  have e2 : cl.slots.size = n := by rw [S, e1]; omega
  exact ⟨cl, A, e2, fun i hi => by rw [H i (by omega), hv i hi]⟩
/-- System.arraycopy(a, 0, b, 0, nn) on ints -/
theorem own_copy (X : Stand p l e R s m args below meth c T locs cells slots) (hx : p.tables.exec = Jvm.exec) (hZ : Z.Warmed39 s.vm) {own : String} {index : Nat} (hown : s.vm.findClass own = some m.cls)
    (w1 : (Jvm.Cond.methodLink own index Jvm.Stand.acN).before a0 Z = true) (w2 : (Jvm.Cond.native Jvm.Stand.acN).before a0 Z = true) (w3 : (Jvm.Cond.static Jvm.Stand.acN).before a0 Z = true) (w4 : (Jvm.Cond.initialized "java/lang/System").before a0 Z = true) (eT : T.heap = h)
    {F G : Nat → Int32} (A : own_AI Z h a .int n F) (B : own_AI Z h b .int n' G) {z z' nn : Int32} (hz : z.toInt = n) (hz' : z'.toInt = n') (h3 : 0 ≤ nn.toInt) (h4 : nn.toInt ≤ n) (h5 : nn.toInt ≤ n') {n0 : Nat} (N : Fr n0 locs) (ge : n0 ≤ b)
    {g : JFrame} (hg : g.method = m) (hsize : g.locals.size = c.maxLocals) {rest : List Value} (hs : g.stack = .int nn :: .int 0 :: .ref b :: .int 0 :: .ref a :: rest) (hd : decode c.code g.pc = .ok (.invokestatic index, 3))
    (hf : 1 ≤ R.frames) {W : Nat} (hW : 2 * g.monitorRoom + (rest.map fun v => v.category).sum ≤ W) (hlo : W + 18 ≤ R.locals)
    (k : ∀ T' h' L G', Stand p l e R s m args below meth c T' L cells slots → T'.heap = h' → Fr n0 L → Keep h h' [b] → own_AI Z h' b .int n' G' → (∀ i : Nat, (i : Int) < nn.toInt → G' i = F i) → (∀ i : Nat, nn.toInt ≤ i → G' i = G i) → own_Ends p e below s C S Qv T' { g with pc := g.pc + 3, stack := rest }) : own_Ends p e below s C S Qv T g := by
  obtain ⟨k1, A1⟩ := own_toArv A hz
  obtain ⟨k2, B1⟩ := own_toArv B hz'
  have e0 : (0 : Int32).toNatClampNeg = 0 := rfl
  have e1 : nn.toNatClampNeg = nn.toInt.toNat := rfl
  have e2 : z.toNatClampNeg = z.toInt.toNat := rfl
  have e3 : z'.toNatClampNeg = z'.toInt.toNat := rfl
  obtain ⟨T', h', L, X', e', N', K', A', st⟩ := cpA X hx hZ hown w1 w2 w3 w4 eT A1 B1 (Or.inl ⟨rfl, rfl⟩) (sp := 0) (dp := 0) (nn := nn) (by decide) (by decide) (own_nn h3) (by rw [e0, e1, e2]; omega) (by rw [e0, e1, e3]; omega) rfl (by rw [e0, e1, List.length_map, List.length_range]; omega) N ge hg hsize hs hd hf hW hlo
  refine own_go _ st (k T' h' L (fun i => if (i : Int) < nn.toInt then F i else G i) X' e' N' K' (own_ofArv A' hz' fun i hi => ?_) (fun i hi => if_pos hi) (fun i hi => if_neg (by omega)))
  rw [e0, e1, List.take_zero, List.nil_append, Nat.zero_add, List.getD_eq_getElem?_getD]
  by_cases q : (i : Int) < nn.toInt
  · have hi1 : i < nn.toInt.toNat := by omega
    rw [List.getElem?_append_left (by rw [List.length_map, List.length_range]; exact hi1), List.getElem?_map, List.getElem?_range hi1]
    show (some (((List.range n).map fun i => Value.int (F i)).getD (0 + i) (Value.int 0))).getD (Value.int 0) = Value.int (if (i : Int) < nn.toInt then F i else G i)
    rw [if_pos q, Nat.zero_add, List.getD_eq_getElem?_getD, List.getElem?_map, List.getElem?_range (by omega)]
    rfl
  · have hi1 : nn.toInt.toNat ≤ i := by omega
    rw [List.getElem?_append_right (by rw [List.length_map, List.length_range]; exact hi1), List.length_map, List.length_range, List.getElem?_drop, Nat.add_sub_cancel' hi1, List.getElem?_map, List.getElem?_range hi]
    show Value.int (G i) = Value.int (if (i : Int) < nn.toInt then F i else G i)
    rw [if_neg q]
end OwnCopy
def own_G (F : Nat → Int32) (i : Int) : Int := (F i.toNat).toInt
theorem own_G_set {F F' : Nat → Int32} {j x : Int} {v : Int32} (h : F' = fun i => if i = j.toNat then v else F i) (h0 : 0 ≤ j) (hx : 0 ≤ x) : own_G F' x = if x = j then v.toInt else own_G F x := by
  unfold own_G
  rw [h]
  by_cases q : x = j
  · subst q; rw [if_pos rfl]; show (if _ then _ else _ : Int32).toInt = _; rw [if_pos rfl]
  · rw [if_neg q]; show (if _ then _ else _ : Int32).toInt = _; rw [if_neg (by omega)]
theorem own_G_eq {F F' : Nat → Int32} {n : Nat} (h : ∀ i : Nat, i < n → F' i = F i) {x : Int} (h0 : 0 ≤ x) (h1 : x < n) : own_G F' x = own_G F x := by unfold own_G; rw [h _ (by omega)]
/-- what join leaves of the two arrays -/
def own_jn (sz la : Int) (I P I' P' : Nat → Int32) : Prop := (∀ i, 0 ≤ i → i < sz → own_G I' i = own_G I i) ∧ own_G I' sz = la + 1 ∧ (∀ x, 1 ≤ x → x ≤ la → own_G P' x = own_G P x) ∧ own_G P' (la + 1) = sz
theorem own_jn_of {sz la : Int} {I P J O I' P' : Nat → Int32} {v w : Int32} (h0 : 0 ≤ sz) (h1 : 0 ≤ la) (hI : ∀ i, 0 ≤ i → i < sz → own_G J i = own_G I i) (hP : ∀ x, 1 ≤ x → x ≤ la → own_G O x = own_G P x) (e1 : I' = fun i => if i = sz.toNat then v else J i) (e2 : P' = fun i => if i = (la + 1).toNat then w else O i) (hv : v.toInt = la + 1) (hw : w.toInt = sz) : own_jn sz la I P I' P' := by
  refine ⟨fun i a b => ?_, ?_, fun x a b => ?_, ?_⟩
  · rw [own_G_set e1 h0 a, if_neg (by omega), hI i a b]
  · rw [own_G_set e1 h0 h0, if_pos rfl, hv]
  · rw [own_G_set e2 (by omega) (by omega), if_neg (by omega), hP x a b]
  · rw [own_G_set e2 (by omega) (by omega), if_pos rfl, hw]
/-- what leave(q) leaves -/
def own_lv (sz la q : Int) (I P I' P' : Nat → Int32) : Prop := (∀ i, 0 ≤ i → i < sz - 1 → own_G I' i = if i = own_G P q then own_G I (sz - 1) else own_G I i) ∧ (∀ x, 1 ≤ x → x ≤ la → own_G P' x = if x = own_G I (sz - 1) ∧ ¬ own_G P q = sz - 1 then own_G P q else if x = q then -1 else own_G P x)
theorem own_lv_last {sz la q : Int} {I P P' : Nat → Int32} {w : Int32} (hq : 1 ≤ q) (hk : own_G P q = sz - 1) (e1 : P' = fun i => if i = q.toNat then w else P i) (hw : w.toInt = -1) : own_lv sz la q I P I P' := by
  refine ⟨fun i a b => ?_, fun x a b => ?_⟩
  · rw [if_neg (by omega)]
  · rw [own_G_set e1 (by omega) (by omega), hw, if_neg (show ¬ (x = own_G I (sz - 1) ∧ ¬ own_G P q = sz - 1) from fun h => h.2 hk)]
theorem own_lv_mid {sz la q : Int} {I P I' O P' : Nat → Int32} {w v k : Int32} (hq : 1 ≤ q) (hk : ¬ own_G P q = sz - 1) (h0 : 0 ≤ own_G P q) (h1 : 1 ≤ own_G I (sz - 1)) (ek : k.toInt = own_G P q) (ev : v.toInt = own_G I (sz - 1)) (e1 : O = fun i => if i = q.toNat then w else P i) (hw : w.toInt = -1) (e2 : I' = fun i => if i = k.toInt.toNat then v else I i) (e3 : P' = fun i => if i = v.toInt.toNat then k else O i) : own_lv sz la q I P I' P' := by
  refine ⟨fun i a b => ?_, fun x a b => ?_⟩
  · rw [own_G_set e2 (by omega) a, ek, ev]
  · rw [own_G_set e3 (by omega) (by omega), own_G_set e1 (by omega) (by omega), hw, ek, ev]
    by_cases c : x = own_G I (sz - 1)
    · rw [if_pos c, if_pos ⟨c, hk⟩]
    · rw [if_neg c, if_neg (show ¬ (x = own_G I (sz - 1) ∧ ¬ own_G P q = sz - 1) from fun h => c h.1)]
/-- the arrays agree: who is live stands where the other array says -/
def own_V (sz la : Int) (I P : Nat → Int32) : Prop := 0 ≤ sz ∧ 0 ≤ la ∧ (∀ i, 0 ≤ i → i < sz → 1 ≤ own_G I i ∧ own_G I i ≤ la ∧ own_G P (own_G I i) = i) ∧ (∀ x, 1 ≤ x → x ≤ la → ¬ own_G P x = -1 → 0 ≤ own_G P x ∧ own_G P x < sz ∧ own_G I (own_G P x) = x)
theorem own_V_join {sz la : Int} {I P I' P' : Nat → Int32} (h : own_V sz la I P) (j : own_jn sz la I P I' P') : own_V (sz + 1) (la + 1) I' P' := by
  obtain ⟨a1, a2, a3, a4⟩ := h
  obtain ⟨b1, b2, b3, b4⟩ := j
  refine ⟨by omega, by omega, fun i h1 h2 => ?_, fun x h1 h2 h3 => ?_⟩
  · by_cases q : i = sz
    · subst q; rw [b2]; exact ⟨by omega, by omega, b4⟩
    · have c := a3 i h1 (by omega)
      rw [b1 i h1 (by omega), b3 _ c.1 c.2.1]
      exact ⟨c.1, by omega, c.2.2⟩
  · by_cases q : x = la + 1
    · subst q; rw [b4]; exact ⟨a1, by omega, b2⟩
    · rw [b3 x h1 (by omega)] at h3 ⊢
      have c := a4 x h1 (by omega) h3
      exact ⟨c.1, by omega, by rw [b1 _ c.1 c.2.1]; exact c.2.2⟩
theorem own_V_leave {sz la q : Int} {I P I' P' : Nat → Int32} (h : own_V sz la I P) (hq : 1 ≤ q) (hq' : q ≤ la) (hl : ¬ own_G P q = -1) (j : own_lv sz la q I P I' P') : own_V (sz - 1) la I' P' := by
  obtain ⟨a1, a2, a3, a4⟩ := h
  obtain ⟨b1, b2⟩ := j
  have k := a4 q hq hq' hl
  have t := a3 (sz - 1) (by omega) (by omega)
  generalize hK : own_G P q = kk at *
  generalize hT : own_G I (sz - 1) = tt at *
  refine ⟨by omega, a2, fun i h1 h2 => ?_, fun x h1 h2 h3 => ?_⟩
  · rw [b1 i h1 h2]
    by_cases c : i = kk
    · rw [if_pos c]
      refine ⟨t.1, t.2.1, ?_⟩
      rw [b2 tt t.1 t.2.1, if_pos ⟨rfl, by omega⟩]; exact c.symm
    · rw [if_neg c]
      have d := a3 i h1 (by omega)
      refine ⟨d.1, d.2.1, ?_⟩
      have n1 : own_G I i ≠ tt := fun e => by have := d.2.2; rw [e, t.2.2] at this; omega
      have n2 : own_G I i ≠ q := fun e => c (by have := d.2.2; rw [e, hK] at this; exact this.symm)
      rw [b2 _ d.1 d.2.1, if_neg (fun e => n1 e.1), if_neg n2]; exact d.2.2
  · rw [b2 x h1 h2] at h3 ⊢
    by_cases c : x = tt ∧ ¬ kk = sz - 1
    · rw [if_pos c]
      refine ⟨k.1, by omega, ?_⟩
      rw [b1 kk k.1 (by omega), if_pos rfl]; exact c.1.symm
    · rw [if_neg c] at h3 ⊢
      by_cases c2 : x = q
      · rw [if_pos c2] at h3; exact absurd rfl h3
      · rw [if_neg c2] at h3 ⊢
        have d := a4 x h1 h2 h3
        have n1 : own_G P x ≠ kk := fun e => c2 (by rw [← d.2.2, e, k.2.2])
        have n2 : own_G P x ≠ sz - 1 := fun e => by
          have e1 : x = tt := by rw [← d.2.2, e, hT]
          exact c ⟨e1, fun e2 => n1 (by omega)⟩
        refine ⟨d.1, by omega, ?_⟩
        rw [b1 _ d.1 (by omega), if_neg n1]; exact d.2.2
theorem own_lv_live {sz la q : Int} {I P I' P' : Nat → Int32} (h : own_V sz la I P) (hq : 1 ≤ q) (hq' : q ≤ la) (hl : ¬ own_G P q = -1) (j : own_lv sz la q I P I' P') : ∀ x, 1 ≤ x → x ≤ la → (own_G P' x = -1 ↔ x = q ∨ own_G P x = -1) := by
  intro x h1 h2
  obtain ⟨a1, a2, a3, a4⟩ := h
  have k := a4 q hq hq' hl
  have t := a3 (sz - 1) (by omega) (by omega)
  rw [j.2 x h1 h2]
  by_cases c : x = own_G I (sz - 1) ∧ ¬ own_G P q = sz - 1
  · rw [if_pos c]
    have e : own_G P x = sz - 1 := by rw [c.1]; exact t.2.2
    have n1 : x ≠ q := fun e2 => c.2 (by rw [← e2]; exact e)
    omega
  · rw [if_neg c]
    by_cases c2 : x = q
    · rw [if_pos c2]; simp [c2]
    · rw [if_neg c2]; simp [c2]
theorem own_jn_live {sz la : Int} {I P I' P' : Nat → Int32} (h0 : 0 ≤ sz) (j : own_jn sz la I P I' P') : ∀ x, 1 ≤ x → x ≤ la + 1 → (own_G P' x = -1 ↔ x ≤ la ∧ own_G P x = -1) := by
  intro x h1 h2
  by_cases c : x = la + 1
  · rw [c, j.2.2.2]; omega
  · rw [j.2.2.1 x h1 (by omega)]; omega
/-- of the ids up to la just l1 and l2 are gone (0: none) -/
def own_D (P : Nat → Int32) (la l1 l2 : Int) : Prop := ∀ x, 1 ≤ x → x ≤ la → (own_G P x = -1 ↔ x = l1 ∨ x = l2)
theorem own_D0 {P : Nat → Int32} {n : Int} (h : ∀ x : Int, 1 ≤ x → x ≤ n → own_G P x = x - 1) : own_D P n 0 0 := fun x h1 h2 => by rw [h x h1 h2]; omega
theorem own_D_l1 {P P' : Nat → Int32} {la y : Int} (D : own_D P la 0 0) (h : ∀ x, 1 ≤ x → x ≤ la → (own_G P' x = -1 ↔ x = y ∨ own_G P x = -1)) : own_D P' la y 0 := fun x h1 h2 => by rw [h x h1 h2, D x h1 h2]; omega
theorem own_D_l2 {P P' : Nat → Int32} {la l1 y : Int} (D : own_D P la l1 0) (h : ∀ x, 1 ≤ x → x ≤ la → (own_G P' x = -1 ↔ x = y ∨ own_G P x = -1)) : own_D P' la l1 y := fun x h1 h2 => by rw [h x h1 h2, D x h1 h2]; omega
theorem own_D_j {P P' : Nat → Int32} {la la' l1 l2 : Int} (D : own_D P la l1 l2) (e : la' = la + 1) (h1 : l1 ≤ la) (h2 : l2 ≤ la) (h : ∀ x, 1 ≤ x → x ≤ la + 1 → (own_G P' x = -1 ↔ x ≤ la ∧ own_G P x = -1)) : own_D P' la' l1 l2 := fun x a b => by
  rw [h x a (by omega)]
  by_cases c : x ≤ la
  · rw [D x a c]; omega
  · omega
theorem own_alive {P : Nat → Int32} {la l1 l2 x : Int} (D : own_D P la l1 l2) (h1 : 1 ≤ x) (h2 : x ≤ la) (n1 : ¬ x = l1) (n2 : ¬ x = l2) : 1 ≤ x ∧ x ≤ la ∧ ¬ own_G P x = -1 := ⟨h1, h2, fun h => ((D x h1 h2).mp h).elim n1 n2⟩
theorem own_fin {r x9 q la la' l1 l2 : Int} {P : Nat → Int32} (hr : r = 1 ∧ (1 ≤ q ∧ q ≤ la ∧ ¬ own_G P q = -1) ∨ r = 0 ∧ ¬ (1 ≤ q ∧ q ≤ la ∧ ¬ own_G P q = -1)) (hx : x9 = 1 ∧ (1 ≤ q ∧ q ≤ la' ∧ ¬ q = l1 ∧ ¬ q = l2) ∨ x9 = 0 ∧ ¬ (1 ≤ q ∧ q ≤ la' ∧ ¬ q = l1 ∧ ¬ q = l2)) (e : la = la') (D : own_D P la l1 l2) : r = x9 := by
  subst e
  by_cases c : 1 ≤ q ∧ q ≤ la
  · have d := D q c.1 c.2
    omega
  · omega
theorem own_z32 (n : Nat) (h : n < 2147483648) : ∃ z : Int32, z.toInt = n := ⟨Int32.ofNat n, Int32.toInt_ofNat_of_lt (by omega)⟩
/-- where the law expects id: n nodes at first, lf: k has left, jn: one has joined -/
def own_ex (id n lf k jn : Int) : Int := if id ≤ 0 ∨ (if jn = 0 then n else n + 1) < id then -1 else if ¬ lf = 0 ∧ id = k then -1 else if ¬ jn = 0 ∧ id = n + 1 then (if lf = 0 then n else n - 1) else if ¬ lf = 0 ∧ id = n then k - 1 else id - 1
def own_X (P : Nat → Int32) (la n lf k jn : Int) : Prop := ∀ x, 1 ≤ x → x ≤ la → own_G P x = own_ex x n lf k jn
theorem own_ex0 {x n k : Int} (h1 : 1 ≤ x) (h2 : x ≤ n) : own_ex x n 0 k 0 = x - 1 := by
  unfold own_ex
  rw [if_neg (by simp; omega), if_neg (by simp), if_neg (by simp), if_neg (by simp)]
theorem own_ex1 {x n k : Int} (h1 : 1 ≤ x) (h2 : x ≤ n) : own_ex x n 1 k 0 = if x = k then -1 else if x = n then k - 1 else x - 1 := by
  unfold own_ex
  rw [if_neg (by simp; omega)]
  by_cases c : x = k
  · rw [if_pos ⟨by decide, c⟩, if_pos c]
  · rw [if_neg (fun h => c h.2), if_neg c, if_neg (by simp)]
    by_cases d : x = n
    · rw [if_pos ⟨by decide, d⟩, if_pos d]
    · rw [if_neg (fun h => d h.2), if_neg d]
theorem own_exj {x n lf k : Int} (h1 : 1 ≤ x) (h2 : x ≤ n) : own_ex x n lf k 1 = own_ex x n lf k 0 := by
  unfold own_ex
  rw [if_neg (by simp; omega), if_neg (show ¬ (x ≤ 0 ∨ (if (0 : Int) = 0 then n else n + 1) < x) by simp; omega)]
  by_cases c : ¬ lf = 0 ∧ x = k
  · rw [if_pos c, if_pos c]
  · rw [if_neg c, if_neg c, if_neg (by omega), if_neg (show ¬ (¬ (0 : Int) = 0 ∧ x = n + 1) by simp)]
theorem own_exn {n lf k : Int} (h0 : 0 ≤ n) (hk : k ≤ n) : own_ex (n + 1) n lf k 1 = if lf = 0 then n else n - 1 := by
  unfold own_ex
  rw [if_neg (by simp; omega), if_neg (by omega), if_pos ⟨by decide, rfl⟩]
theorem own_X0 {P : Nat → Int32} {n k : Int} (h : ∀ x : Int, 1 ≤ x → x ≤ n → own_G P x = x - 1) : own_X P n n 0 k 0 := fun x h1 h2 => by rw [h x h1 h2, own_ex0 h1 h2]
theorem own_X_leave {I P I' P' : Nat → Int32} {sz la n k : Int} (h : (∀ j : Int, 0 ≤ j → j < n → own_G I j = j + 1) ∧ (∀ x : Int, 1 ≤ x → x ≤ n → own_G P x = x - 1)) (h1 : 1 ≤ k) (h2 : k ≤ n) (e1 : sz = n) (e2 : la = n) (j : own_lv sz la k I P I' P') : own_X P' n n 1 k 0 := fun x a b => by
  rw [e1, e2] at j
  rw [j.2 x a b, own_ex1 a b, h.1 _ (by omega) (by omega), h.2 k h1 h2, h.2 x a b]
  have e3 : n - 1 + 1 = n := by omega
  rw [e3]
  by_cases c : x = k
  · simp only [if_pos c]
    rw [if_neg (by omega)]
  · simp only [if_neg c]
    by_cases d : x = n
    · rw [if_pos ⟨d, by omega⟩, if_pos d]
    · rw [if_neg (by omega), if_neg d]
theorem own_X_join {I P I' P' : Nat → Int32} {sz la n k lf : Int} (X : own_X P n n lf k 0) (h0 : 0 ≤ n) (hk : k ≤ n) (e1 : sz = if lf = 0 then n else n - 1) (e2 : la = n) (j : own_jn sz la I P I' P') : own_X P' (n + 1) n lf k 1 := fun x a b => by
  rw [e2] at j
  by_cases c : x = n + 1
  · rw [c, j.2.2.2, own_exn h0 hk, e1]
  · rw [j.2.2.1 x a (by omega), X x a (by omega), own_exj a (by omega)]
theorem own_pos0 {r e q la n lf k : Int} {P : Nat → Int32} (hr : (1 ≤ q ∧ q ≤ la → r = own_G P q) ∧ (¬ (1 ≤ q ∧ q ≤ la) → r = -1)) (he : e = own_ex q n lf k 0) (X : own_X P n n lf k 0) (hla : la = n) : r = e := by
  subst hla
  by_cases c : 1 ≤ q ∧ q ≤ la
  · rw [hr.1 c, he, X q c.1 c.2]
  · rw [hr.2 c, he]; unfold own_ex; rw [if_pos (by simp; omega)]
theorem own_pos1 {r e q la n lf k : Int} {P : Nat → Int32} (hr : (1 ≤ q ∧ q ≤ la → r = own_G P q) ∧ (¬ (1 ≤ q ∧ q ≤ la) → r = -1)) (he : e = own_ex q n lf k 1) (X : own_X P (n + 1) n lf k 1) (hla : la = n + 1) : r = e := by
  subst hla
  by_cases c : 1 ≤ q ∧ q ≤ n + 1
  · rw [hr.1 c, he, X q c.1 c.2]
  · rw [hr.2 c, he]; unfold own_ex; rw [if_pos (by simp; omega)]
theorem dI_0 : decode jdk_29_method_37_code 0 = .ok (.iload_n 0, 1) := by decide +kernel
theorem dI_1 : decode jdk_29_method_37_code 1 = .ok (.ldc 134, 2) := by decide +kernel
theorem dI_3 : decode jdk_29_method_37_code 3 = .ok (.if_icmp .ne 13, 3) := by decide +kernel
theorem dI_16 : decode jdk_29_method_37_code 16 = .ok (.iload_n 0, 1) := by decide +kernel
theorem dI_17 : decode jdk_29_method_37_code 17 = .ok (.iconst 1, 1) := by decide +kernel
theorem dI_18 : decode jdk_29_method_37_code 18 = .ok (.iadd, 1) := by decide +kernel
theorem dI_19 : decode jdk_29_method_37_code 19 = .ok (.ireturn, 1) := by decide +kernel
theorem pfI : plainFor (⟨"java/lang/Math", "incrementExact", "(I)I"⟩ : MethodName) = true := by decide +kernel
set_option maxHeartbeats 4000000 in
theorem efI (m : MethodId) (q1 : Int32) : entryFrame m #[(.int q1)] 1 = (mkF m 0 #[.val (.int q1)] []) := by first | (simp [entryFrame, mkF, argsToLocals, Value.category, maxLocals]; done) | rfl
def QI (Z : State) (q1 : Int32) (h0 : Heap) (n0 : Nat) (v : Option Value) (h : Heap) (L : List Loc) : Prop := (∃ r : Int32, v = some (.int r) ∧ r.toInt = q1.toInt + 1) ∧ Fr n0 L ∧ h = h0
set_option maxRecDepth 65536 in
set_option maxHeartbeats 40000000 in
theorem rmI (l : Launch) (Z : State) (a0 : Array Value) (hw : ∀ d ∈ tables_1, d.before a0 Z = true) (ws : List Jvm.Cond) (q1 : Int32) (h0 : Heap) (n0 : Nat) (Z0 : n0 ≤ h0.size) (hp : q1.toInt < 2147483647) :
    MetFree l (⟨"java/lang/Math", "incrementExact", "(I)I"⟩ : MethodName) (head1 (Jvm.Cond.code (⟨"java/lang/Math", "incrementExact", "(I)I"⟩ : MethodName) jdk_29_method_37_code 1 (some Jvm.ClassFile.FieldType.int) :: ws) ({ frames := 0, cells := 0, slots := 0, locals := 0 } : Room)) (fun aa U => aa = #[(.int q1)] ∧ Z.Warmed39 U.vm ∧ U.heap = h0) (fun _ _ _ _ _ => True) (fun _ U o U' => ∃ v L, o = .returned v ∧ QI Z q1 h0 n0 v U'.heap L ∧ FrameEnd U o U' L ({ frames := 0, cells := 0, slots := 0, locals := 0 } : Room).cells ({ frames := 0, cells := 0, slots := 0, locals := 0 } : Room).slots) := by
  refine own_met pfI ?_
  intro p e s m below meth c T0 hx hby hml hown hret hlk hnm hZ X0 e0
  have N0 := Fr.nil n0
  have r_q1 := rng32 q1
  rw [efI]
  refine own_go (mkF m 1 #[.val (.int q1)] [(.int q1)]) (fun t k => XS.iloadN X0.here hx rfl (hb hby dI_0) rfl k) ?_
  refine own_go (mkF m 3 #[.val (.int q1)] [(.int (2147483647 : Int32)), (.int q1)]) (fun t k => X0.ldcInt hx hown (mvT hZ (hw _ (List.mem_of_getElem? (i := 35) rfl))) (g := (mkF m 1 #[.val (.int q1)] [(.int q1)])) rfl (hb hby dI_1) _ k) ?_
  have c3 : ¬ (q1.toInt = 2147483647) := by omega
  refine own_go (mkF m 16 #[.val (.int q1)] []) (fun t k => XS.icmpYes X0.here hx rfl (pc0 := 3) (pc' := 16) rfl (hb hby dI_3) rfl (own_icT (cd := .ne) c3) (by decide) (by decide) k) ?_
  refine own_go (mkF m 17 #[.val (.int q1)] [(.int q1)]) (fun t k => XS.iloadN X0.here hx rfl (hb hby dI_16) rfl k) ?_
  refine own_go (mkF m 18 #[.val (.int q1)] [(.int (1 : Int32)), (.int q1)]) (fun t k => XS.iconst X0.here hx rfl (hb hby dI_17) k) ?_
  refine own_go (mkF m 19 #[.val (.int q1)] [(.int (q1 + (1 : Int32)))]) (fun t k => XS.iadd X0.here hx rfl (hb hby dI_18) rfl k) ?_
  generalize hv18 : (q1 + (1 : Int32)) = v18
  have f18 : (v18.toInt - (q1.toInt + 1)) % 4294967296 = 0 := by rw [← hv18]; exact c_iadd q1 (1 : Int32)
  have r18 := rng32 v18
  refine own_retI X0 hx hlk hret (by simp) rfl (hb hby dI_19) (by decide) (by decide) ?_
  rw [e0]
  refine ⟨⟨_, rfl, ?_⟩, N0, rfl⟩
  omega
theorem dX_0 : decode jdk_29_method_65_code 0 = .ok (.iload_n 0, 1) := by decide +kernel
theorem dX_1 : decode jdk_29_method_65_code 1 = .ok (.iload_n 1, 1) := by decide +kernel
theorem dX_2 : decode jdk_29_method_65_code 2 = .ok (.if_icmp .lt 7, 3) := by decide +kernel
theorem dX_5 : decode jdk_29_method_65_code 5 = .ok (.iload_n 0, 1) := by decide +kernel
theorem dX_6 : decode jdk_29_method_65_code 6 = .ok (.goto 4, 3) := by decide +kernel
theorem dX_9 : decode jdk_29_method_65_code 9 = .ok (.iload_n 1, 1) := by decide +kernel
theorem dX_10 : decode jdk_29_method_65_code 10 = .ok (.ireturn, 1) := by decide +kernel
theorem pfX : plainFor (⟨"java/lang/Math", "max", "(II)I"⟩ : MethodName) = true := by decide +kernel
set_option maxHeartbeats 4000000 in
theorem efX (m : MethodId) (q1 : Int32) (q2 : Int32) : entryFrame m #[(.int q1), (.int q2)] 2 = (mkF m 0 #[.val (.int q1), .val (.int q2)] []) := by first | (simp [entryFrame, mkF, argsToLocals, Value.category, maxLocals]; done) | rfl
def QX (Z : State) (q1 : Int32) (q2 : Int32) (h0 : Heap) (n0 : Nat) (v : Option Value) (h : Heap) (L : List Loc) : Prop := (∃ r : Int32, v = some (.int r) ∧ (q1.toInt ≤ r.toInt ∧ q2.toInt ≤ r.toInt ∧ (r.toInt = q1.toInt ∨ r.toInt = q2.toInt))) ∧ Fr n0 L ∧ h = h0
set_option maxRecDepth 65536 in
set_option maxHeartbeats 40000000 in
theorem rmX (l : Launch) (Z : State) (a0 : Array Value) (hw : ∀ d ∈ tables_1, d.before a0 Z = true) (ws : List Jvm.Cond) (q1 : Int32) (q2 : Int32) (h0 : Heap) (n0 : Nat) (Z0 : n0 ≤ h0.size) :
    MetFree l (⟨"java/lang/Math", "max", "(II)I"⟩ : MethodName) (head1 (Jvm.Cond.code (⟨"java/lang/Math", "max", "(II)I"⟩ : MethodName) jdk_29_method_65_code 2 (some Jvm.ClassFile.FieldType.int) :: ws) ({ frames := 0, cells := 0, slots := 0, locals := 0 } : Room)) (fun aa U => aa = #[(.int q1), (.int q2)] ∧ Z.Warmed39 U.vm ∧ U.heap = h0) (fun _ _ _ _ _ => True) (fun _ U o U' => ∃ v L, o = .returned v ∧ QX Z q1 q2 h0 n0 v U'.heap L ∧ FrameEnd U o U' L ({ frames := 0, cells := 0, slots := 0, locals := 0 } : Room).cells ({ frames := 0, cells := 0, slots := 0, locals := 0 } : Room).slots) := by
  refine own_met pfX ?_
  intro p e s m below meth c T0 hx hby hml hown hret hlk hnm hZ X0 e0
  have N0 := Fr.nil n0
  have r_q1 := rng32 q1
  have r_q2 := rng32 q2
  rw [efX]
  refine own_go (mkF m 1 #[.val (.int q1), .val (.int q2)] [(.int q1)]) (fun t k => XS.iloadN X0.here hx rfl (hb hby dX_0) rfl k) ?_
  refine own_go (mkF m 2 #[.val (.int q1), .val (.int q2)] [(.int q2), (.int q1)]) (fun t k => XS.iloadN X0.here hx rfl (hb hby dX_1) rfl k) ?_
  by_cases c2 : q1.toInt < q2.toInt
  · skip
    refine own_go (mkF m 9 #[.val (.int q1), .val (.int q2)] []) (fun t k => XS.icmpYes X0.here hx rfl (pc0 := 2) (pc' := 9) rfl (hb hby dX_2) rfl (own_icT (cd := .lt) c2) (by decide) (by decide) k) ?_
    refine own_go (mkF m 10 #[.val (.int q1), .val (.int q2)] [(.int q2)]) (fun t k => XS.iloadN X0.here hx rfl (hb hby dX_9) rfl k) ?_
    refine own_retI X0 hx hlk hret (by simp) rfl (hb hby dX_10) (by decide) (by decide) ?_
    rw [e0]
    refine ⟨⟨_, rfl, ?_⟩, N0, rfl⟩
    omega
  · skip
    refine own_go (mkF m 5 #[.val (.int q1), .val (.int q2)] []) (fun t k => XS.icmpNo X0.here hx rfl (hb hby dX_2) rfl (own_icF (cd := .lt) c2) k) ?_
    refine own_go (mkF m 6 #[.val (.int q1), .val (.int q2)] [(.int q1)]) (fun t k => XS.iloadN X0.here hx rfl (hb hby dX_5) rfl k) ?_
    refine own_go (mkF m 10 #[.val (.int q1), .val (.int q2)] [(.int q1)]) (fun t k => XS.goto X0.here hx rfl (pc0 := 6) (pc' := 10) rfl (hb hby dX_6) (by decide) (by decide) k) ?_
    refine own_retI X0 hx hlk hret (by simp) rfl (hb hby dX_10) (by decide) (by decide) ?_
    rw [e0]
    refine ⟨⟨_, rfl, ?_⟩, N0, rfl⟩
    omega
theorem dM_0 : decode jdk_29_method_69_code 0 = .ok (.iload_n 0, 1) := by decide +kernel
theorem dM_1 : decode jdk_29_method_69_code 1 = .ok (.iload_n 1, 1) := by decide +kernel
theorem dM_2 : decode jdk_29_method_69_code 2 = .ok (.if_icmp .gt 7, 3) := by decide +kernel
theorem dM_5 : decode jdk_29_method_69_code 5 = .ok (.iload_n 0, 1) := by decide +kernel
theorem dM_6 : decode jdk_29_method_69_code 6 = .ok (.goto 4, 3) := by decide +kernel
theorem dM_9 : decode jdk_29_method_69_code 9 = .ok (.iload_n 1, 1) := by decide +kernel
theorem dM_10 : decode jdk_29_method_69_code 10 = .ok (.ireturn, 1) := by decide +kernel
theorem pfM : plainFor (⟨"java/lang/Math", "min", "(II)I"⟩ : MethodName) = true := by decide +kernel
set_option maxHeartbeats 4000000 in
theorem efM (m : MethodId) (q1 : Int32) (q2 : Int32) : entryFrame m #[(.int q1), (.int q2)] 2 = (mkF m 0 #[.val (.int q1), .val (.int q2)] []) := by first | (simp [entryFrame, mkF, argsToLocals, Value.category, maxLocals]; done) | rfl
def QM (Z : State) (q1 : Int32) (q2 : Int32) (h0 : Heap) (n0 : Nat) (v : Option Value) (h : Heap) (L : List Loc) : Prop := (∃ r : Int32, v = some (.int r) ∧ (r.toInt ≤ q1.toInt ∧ r.toInt ≤ q2.toInt ∧ (r.toInt = q1.toInt ∨ r.toInt = q2.toInt))) ∧ Fr n0 L ∧ h = h0
set_option maxRecDepth 65536 in
set_option maxHeartbeats 40000000 in
theorem rmM (l : Launch) (Z : State) (a0 : Array Value) (hw : ∀ d ∈ tables_1, d.before a0 Z = true) (ws : List Jvm.Cond) (q1 : Int32) (q2 : Int32) (h0 : Heap) (n0 : Nat) (Z0 : n0 ≤ h0.size) :
    MetFree l (⟨"java/lang/Math", "min", "(II)I"⟩ : MethodName) (head1 (Jvm.Cond.code (⟨"java/lang/Math", "min", "(II)I"⟩ : MethodName) jdk_29_method_69_code 2 (some Jvm.ClassFile.FieldType.int) :: ws) ({ frames := 0, cells := 0, slots := 0, locals := 0 } : Room)) (fun aa U => aa = #[(.int q1), (.int q2)] ∧ Z.Warmed39 U.vm ∧ U.heap = h0) (fun _ _ _ _ _ => True) (fun _ U o U' => ∃ v L, o = .returned v ∧ QM Z q1 q2 h0 n0 v U'.heap L ∧ FrameEnd U o U' L ({ frames := 0, cells := 0, slots := 0, locals := 0 } : Room).cells ({ frames := 0, cells := 0, slots := 0, locals := 0 } : Room).slots) := by
  refine own_met pfM ?_
  intro p e s m below meth c T0 hx hby hml hown hret hlk hnm hZ X0 e0
  have N0 := Fr.nil n0
  have r_q1 := rng32 q1
  have r_q2 := rng32 q2
  rw [efM]
  refine own_go (mkF m 1 #[.val (.int q1), .val (.int q2)] [(.int q1)]) (fun t k => XS.iloadN X0.here hx rfl (hb hby dM_0) rfl k) ?_
  refine own_go (mkF m 2 #[.val (.int q1), .val (.int q2)] [(.int q2), (.int q1)]) (fun t k => XS.iloadN X0.here hx rfl (hb hby dM_1) rfl k) ?_
  by_cases c2 : q2.toInt < q1.toInt
  · skip
    refine own_go (mkF m 9 #[.val (.int q1), .val (.int q2)] []) (fun t k => XS.icmpYes X0.here hx rfl (pc0 := 2) (pc' := 9) rfl (hb hby dM_2) rfl (own_icT (cd := .gt) c2) (by decide) (by decide) k) ?_
    refine own_go (mkF m 10 #[.val (.int q1), .val (.int q2)] [(.int q2)]) (fun t k => XS.iloadN X0.here hx rfl (hb hby dM_9) rfl k) ?_
    refine own_retI X0 hx hlk hret (by simp) rfl (hb hby dM_10) (by decide) (by decide) ?_
    rw [e0]
    refine ⟨⟨_, rfl, ?_⟩, N0, rfl⟩
    omega
  · skip
    refine own_go (mkF m 5 #[.val (.int q1), .val (.int q2)] []) (fun t k => XS.icmpNo X0.here hx rfl (hb hby dM_2) rfl (own_icF (cd := .gt) c2) k) ?_
    refine own_go (mkF m 6 #[.val (.int q1), .val (.int q2)] [(.int q1)]) (fun t k => XS.iloadN X0.here hx rfl (hb hby dM_5) rfl k) ?_
    refine own_go (mkF m 10 #[.val (.int q1), .val (.int q2)] [(.int q1)]) (fun t k => XS.goto X0.here hx rfl (pc0 := 6) (pc' := 10) rfl (hb hby dM_6) (by decide) (by decide) k) ?_
    refine own_retI X0 hx hlk hret (by simp) rfl (hb hby dM_10) (by decide) (by decide) ?_
    rw [e0]
    refine ⟨⟨_, rfl, ?_⟩, N0, rfl⟩
    omega
theorem dC_0 : decode jdk_65_method_123_code 0 = .ok (.iload_n 1, 1) := by decide +kernel
theorem dC_1 : decode jdk_65_method_123_code 1 = .ok (.aload_n 0, 1) := by decide +kernel
theorem dC_2 : decode jdk_65_method_123_code 2 = .ok (.arraylength, 1) := by decide +kernel
theorem dC_3 : decode jdk_65_method_123_code 3 = .ok (.if_icmp .ne 11, 3) := by decide +kernel
theorem dC_14 : decode jdk_65_method_123_code 14 = .ok (.iload_n 1, 1) := by decide +kernel
theorem dC_15 : decode jdk_65_method_123_code 15 = .ok (.newarray .int, 2) := by decide +kernel
theorem dC_17 : decode jdk_65_method_123_code 17 = .ok (.astore_n 2, 1) := by decide +kernel
theorem dC_18 : decode jdk_65_method_123_code 18 = .ok (.aload_n 0, 1) := by decide +kernel
theorem dC_19 : decode jdk_65_method_123_code 19 = .ok (.iconst 0, 1) := by decide +kernel
theorem dC_20 : decode jdk_65_method_123_code 20 = .ok (.aload_n 2, 1) := by decide +kernel
theorem dC_21 : decode jdk_65_method_123_code 21 = .ok (.iconst 0, 1) := by decide +kernel
theorem dC_22 : decode jdk_65_method_123_code 22 = .ok (.aload_n 0, 1) := by decide +kernel
theorem dC_23 : decode jdk_65_method_123_code 23 = .ok (.arraylength, 1) := by decide +kernel
theorem dC_24 : decode jdk_65_method_123_code 24 = .ok (.iload_n 1, 1) := by decide +kernel
theorem dC_25 : decode jdk_65_method_123_code 25 = .ok (.invokestatic 304, 3) := by decide +kernel
theorem dC_28 : decode jdk_65_method_123_code 28 = .ok (.invokestatic 150, 3) := by decide +kernel
theorem dC_31 : decode jdk_65_method_123_code 31 = .ok (.aload_n 2, 1) := by decide +kernel
theorem dC_32 : decode jdk_65_method_123_code 32 = .ok (.areturn, 1) := by decide +kernel
theorem pdC_0 : parseMethodDescriptor "(II)I" = some ⟨[.int, .int], some .int⟩ := by decide +kernel
theorem pfC : plainFor (⟨"java/util/Arrays", "copyOf", "([II)[I"⟩ : MethodName) = true := by decide +kernel
set_option maxHeartbeats 4000000 in
theorem efC (m : MethodId) (a : Addr) (q1 : Int32) : entryFrame m #[(.ref a), (.int q1)] 3 = (mkF m 0 #[.val (.ref a), .val (.int q1), .unset] []) := by first | (simp [entryFrame, mkF, argsToLocals, Value.category, maxLocals]; done) | rfl
def QC (Z : State) (a : Addr) (q1 : Int32) (n : Nat) (F : Nat → Int32) (z : Int32) (h0 : Heap) (n0 : Nat) (v : Option Value) (h : Heap) (L : List Loc) : Prop := ∃ b G, v = some (.ref b) ∧ Fr n0 L ∧ Keep h0 h [] ∧ n0 ≤ b ∧ h0.size ≤ b ∧ own_AI Z h b .int q1.toInt.toNat G ∧ (∀ i : Nat, i < n → (i : Int) < q1.toInt → G i = F i)
set_option maxRecDepth 65536 in
set_option maxHeartbeats 40000000 in
theorem rmC (l : Launch) (Z : State) (a0 : Array Value) (hw : ∀ d ∈ tables_1, d.before a0 Z = true) (ws : List Jvm.Cond) (a : Addr) (q1 : Int32) (n : Nat) (F : Nat → Int32) (z : Int32) (h0 : Heap) (n0 : Nat) (Z0 : n0 ≤ h0.size) (A_a : own_AI Z h0 a .int n F) (hz : z.toInt = n) (hp : 0 ≤ q1.toInt ∧ q1.toInt ≤ 16 ∧ ¬ q1.toInt = n) :
    MetFree l (⟨"java/util/Arrays", "copyOf", "([II)[I"⟩ : MethodName) (head1 (Jvm.Cond.code (⟨"java/util/Arrays", "copyOf", "([II)[I"⟩ : MethodName) jdk_65_method_123_code 3 (some (Jvm.ClassFile.FieldType.array Jvm.ClassFile.FieldType.int)) :: ws) ({ frames := 1, cells := 1, slots := 16, locals := 22 } : Room)) (fun aa U => aa = #[(.ref a), (.int q1)] ∧ Z.Warmed39 U.vm ∧ U.heap = h0) (fun _ _ _ _ _ => True) (fun _ U o U' => ∃ v L, o = .returned v ∧ QC Z a q1 n F z h0 n0 v U'.heap L ∧ FrameEnd U o U' L ({ frames := 1, cells := 1, slots := 16, locals := 22 } : Room).cells ({ frames := 1, cells := 1, slots := 16, locals := 22 } : Room).slots) := by
  refine own_met pfC ?_
  intro p e s m below meth c T0 hx hby hml hown hret hlk hnm hZ X0 e0
  have N0 := Fr.nil n0
  have K0 := Keep.refl h0 ([] : List Addr)
  have r_z := rng32 z
  have r_q1 := rng32 q1
  rw [efC]
  refine own_go (mkF m 1 #[.val (.ref a), .val (.int q1), .unset] [(.int q1)]) (fun t k => XS.iloadN X0.here hx rfl (hb hby dC_0) rfl k) ?_
  refine own_go (mkF m 2 #[.val (.ref a), .val (.int q1), .unset] [(.ref a), (.int q1)]) (fun t k => XS.aloadN X0.here hx rfl (hb hby dC_1) rfl rfl k) ?_
  refine own_alen X0 hx hZ e0 A_a z hz (g := (mkF m 2 #[.val (.ref a), .val (.int q1), .unset] [(.ref a), (.int q1)])) rfl rfl (hb hby dC_2) ?_
  show own_Ends p e below s ({ frames := 1, cells := 1, slots := 16, locals := 22 } : Room).cells ({ frames := 1, cells := 1, slots := 16, locals := 22 } : Room).slots (QC Z a q1 n F z h0 n0) T0 (mkF m 3 #[.val (.ref a), .val (.int q1), .unset] [(.int z), (.int q1)])
  have c3 : ¬ (q1.toInt = z.toInt) := by omega
  refine own_go (mkF m 14 #[.val (.ref a), .val (.int q1), .unset] []) (fun t k => XS.icmpYes X0.here hx rfl (pc0 := 3) (pc' := 14) rfl (hb hby dC_3) rfl (own_icT (cd := .ne) c3) (by decide) (by decide) k) ?_
  refine own_go (mkF m 15 #[.val (.ref a), .val (.int q1), .unset] [(.int q1)]) (fun t k => XS.iloadN X0.here hx rfl (hb hby dC_14) rfl k) ?_
  refine own_newarr X0 hx hZ (hw _ (List.mem_of_getElem? (i := 9) rfl)) e0 (g := (mkF m 15 #[.val (.ref a), .val (.int q1), .unset] [(.int q1)])) rfl (hb hby dC_15) rfl (by omega) 16 (by omega) (by decide) (by decide) (by decide) ?_
  intro T15 h15 b15 X15 e15 E15 g15 A15
  have A15 : own_AI Z h15 b15 .int (q1.toInt.toNat) (fun _ => 0) := A15
  have gb15 : n0 ≤ b15 := Nat.le_trans Z0 (Nat.le_of_eq g15.symm)
  have ne_a_b15 : a ≠ b15 := fun q => Nat.lt_irrefl h0.size (by have := own_Av.lt A_a; rw [q, g15] at this; exact this)
  have A_a_15 := own_Av.ext A_a E15
  have K0_15 := K0.ext E15
  have Z0_15 : n0 ≤ h15.size := Nat.le_trans Z0 E15.1
  have in15 : b15 ∈ ([] : List Addr) ∨ h0.size ≤ b15 := Or.inr (Nat.le_trans K0.1 (Nat.le_of_eq g15.symm))
  show own_Ends p e below s ({ frames := 1, cells := 1, slots := 16, locals := 22 } : Room).cells ({ frames := 1, cells := 1, slots := 16, locals := 22 } : Room).slots (QC Z a q1 n F z h0 n0) T15 (mkF m 17 #[.val (.ref a), .val (.int q1), .unset] [(.ref b15)])
  refine own_go (mkF m 18 #[.val (.ref a), .val (.int q1), .val (.ref b15)] []) (fun t k => XS.astoreN X15.here hx rfl (hb hby dC_17) rfl rfl (l' := #[.val (.ref a), .val (.int q1), .val (.ref b15)]) rfl k) ?_
  refine own_go (mkF m 19 #[.val (.ref a), .val (.int q1), .val (.ref b15)] [(.ref a)]) (fun t k => XS.aloadN X15.here hx rfl (hb hby dC_18) rfl rfl k) ?_
  refine own_go (mkF m 20 #[.val (.ref a), .val (.int q1), .val (.ref b15)] [(.int (0 : Int32)), (.ref a)]) (fun t k => XS.iconst X15.here hx rfl (hb hby dC_19) k) ?_
  refine own_go (mkF m 21 #[.val (.ref a), .val (.int q1), .val (.ref b15)] [(.ref b15), (.int (0 : Int32)), (.ref a)]) (fun t k => XS.aloadN X15.here hx rfl (hb hby dC_20) rfl rfl k) ?_
  refine own_go (mkF m 22 #[.val (.ref a), .val (.int q1), .val (.ref b15)] [(.int (0 : Int32)), (.ref b15), (.int (0 : Int32)), (.ref a)]) (fun t k => XS.iconst X15.here hx rfl (hb hby dC_21) k) ?_
  refine own_go (mkF m 23 #[.val (.ref a), .val (.int q1), .val (.ref b15)] [(.ref a), (.int (0 : Int32)), (.ref b15), (.int (0 : Int32)), (.ref a)]) (fun t k => XS.aloadN X15.here hx rfl (hb hby dC_22) rfl rfl k) ?_
  refine own_alen X15 hx hZ e15 A_a_15 z hz (g := (mkF m 23 #[.val (.ref a), .val (.int q1), .val (.ref b15)] [(.ref a), (.int (0 : Int32)), (.ref b15), (.int (0 : Int32)), (.ref a)])) rfl rfl (hb hby dC_23) ?_
  show own_Ends p e below s ({ frames := 1, cells := 1, slots := 16, locals := 22 } : Room).cells ({ frames := 1, cells := 1, slots := 16, locals := 22 } : Room).slots (QC Z a q1 n F z h0 n0) T15 (mkF m 24 #[.val (.ref a), .val (.int q1), .val (.ref b15)] [(.int z), (.int (0 : Int32)), (.ref b15), (.int (0 : Int32)), (.ref a)])
  refine own_go (mkF m 25 #[.val (.ref a), .val (.int q1), .val (.ref b15)] [(.int q1), (.int z), (.int (0 : Int32)), (.ref b15), (.int (0 : Int32)), (.ref a)]) (fun t k => XS.iloadN X15.here hx rfl (hb hby dC_24) rfl k) ?_
  refine own_callS X15 hx hZ (y := (⟨"java/lang/Math", "min", "(II)I"⟩ : MethodName)) hown (hw _ (List.mem_of_getElem? (i := 59) rfl)) (hw _ (List.mem_of_getElem? (i := 60) rfl)) (hw _ (List.mem_of_getElem? (i := 33) rfl)) (hw _ (List.mem_of_getElem? (i := 61) rfl)) (by decide) e15 (rmM l Z a0 hw [] z q1 h15 n0 Z0_15 ) 4 (by decide) (by decide) (by decide) (by decide) (g := (mkF m 25 #[.val (.ref a), .val (.int q1), .val (.ref b15)] [(.int q1), (.int z), (.int (0 : Int32)), (.ref b15), (.int (0 : Int32)), (.ref a)])) rfl (by rw [hml]; rfl) [(.int z), (.int q1)] [(.int (0 : Int32)), (.ref b15), (.int (0 : Int32)), (.ref a)] (lenOf pdC_0 rfl) rfl rfl (by show 2 * 0 + _ ≤ _; exact Nat.le_of_eq rfl) (hb hby dC_25) ?_
  intro rv25 T25 h25 L25 X25 e25 hQ25
  obtain ⟨⟨r25, rfl, hr25⟩, NQ25, eq25⟩ := hQ25
  rw [eq25] at e25
  have rr25 := rng32 r25
  have N25 := Fr.app N0 NQ25
  show own_Ends p e below s ({ frames := 1, cells := 1, slots := 16, locals := 22 } : Room).cells ({ frames := 1, cells := 1, slots := 16, locals := 22 } : Room).slots (QC Z a q1 n F z h0 n0) T25 (mkF m 28 #[.val (.ref a), .val (.int q1), .val (.ref b15)] [(.int r25), (.int (0 : Int32)), (.ref b15), (.int (0 : Int32)), (.ref a)])
  refine own_copy X25 hx hZ hown (hw _ (List.mem_of_getElem? (i := 62) rfl)) (hw _ (List.mem_of_getElem? (i := 65) rfl)) (hw _ (List.mem_of_getElem? (i := 63) rfl)) (hw _ (List.mem_of_getElem? (i := 64) rfl)) e25 A_a_15 A15 (z := z) (z' := q1) hz (by omega) (by omega) (by omega) (by omega) N25 gb15 (g := (mkF m 28 #[.val (.ref a), .val (.int q1), .val (.ref b15)] [(.int r25), (.int (0 : Int32)), (.ref b15), (.int (0 : Int32)), (.ref a)])) rfl (by rw [hml]; rfl) rfl (hb hby dC_28) (by decide) (W := 0) (by show 2 * 0 + _ ≤ _; exact Nat.le_of_eq rfl) (by decide) ?_
  intro T28 h28 L28 G28 X28 e28 N28 K28 A28 cp1 cp2
  have A_a_28 := own_Av.keep A_a_15 K28 (ninS ne_a_b15 nin0)
  have K0_28 := K0_15.trans K28 (allS in15 all0)
  have Z0_28 : n0 ≤ h28.size := Nat.le_trans Z0_15 K28.1
  show own_Ends p e below s ({ frames := 1, cells := 1, slots := 16, locals := 22 } : Room).cells ({ frames := 1, cells := 1, slots := 16, locals := 22 } : Room).slots (QC Z a q1 n F z h0 n0) T28 (mkF m 31 #[.val (.ref a), .val (.int q1), .val (.ref b15)] [])
  refine own_go (mkF m 32 #[.val (.ref a), .val (.int q1), .val (.ref b15)] [(.ref b15)]) (fun t k => XS.aloadN X28.here hx rfl (hb hby dC_31) rfl rfl k) ?_
  refine own_retA X28 hx hlk hret rfl rfl (hb hby dC_32) (by decide) (by decide) ?_
  rw [e28]
  exact ⟨_, G28, rfl, N28, K0_28, gb15, (by rw [g15]; exact Nat.le_refl _), A28, fun i h1 h2 => cp1 i (by omega)⟩
theorem dN_0 : decode prog_14_method_7_code 0 = .ok (.aload_n 0, 1) := by decide +kernel
theorem dN_1 : decode prog_14_method_7_code 1 = .ok (.getfield 29, 3) := by decide +kernel
theorem dN_4 : decode prog_14_method_7_code 4 = .ok (.invokestatic 49, 3) := by decide +kernel
theorem dN_7 : decode prog_14_method_7_code 7 = .ok (.istore_n 1, 1) := by decide +kernel
theorem dN_8 : decode prog_14_method_7_code 8 = .ok (.aload_n 0, 1) := by decide +kernel
theorem dN_9 : decode prog_14_method_7_code 9 = .ok (.getfield 20, 3) := by decide +kernel
theorem dN_12 : decode prog_14_method_7_code 12 = .ok (.aload_n 0, 1) := by decide +kernel
theorem dN_13 : decode prog_14_method_7_code 13 = .ok (.getfield 7, 3) := by decide +kernel
theorem dN_16 : decode prog_14_method_7_code 16 = .ok (.arraylength, 1) := by decide +kernel
theorem dN_17 : decode prog_14_method_7_code 17 = .ok (.if_icmp .ne 24, 3) := by decide +kernel
theorem dN_41 : decode prog_14_method_7_code 41 = .ok (.iload_n 1, 1) := by decide +kernel
theorem dN_42 : decode prog_14_method_7_code 42 = .ok (.aload_n 0, 1) := by decide +kernel
theorem dN_43 : decode prog_14_method_7_code 43 = .ok (.getfield 13, 3) := by decide +kernel
theorem dN_46 : decode prog_14_method_7_code 46 = .ok (.arraylength, 1) := by decide +kernel
theorem dN_47 : decode prog_14_method_7_code 47 = .ok (.if_icmp .ne 17, 3) := by decide +kernel
theorem dN_64 : decode prog_14_method_7_code 64 = .ok (.aload_n 0, 1) := by decide +kernel
theorem dN_65 : decode prog_14_method_7_code 65 = .ok (.getfield 7, 3) := by decide +kernel
theorem dN_68 : decode prog_14_method_7_code 68 = .ok (.aload_n 0, 1) := by decide +kernel
theorem dN_69 : decode prog_14_method_7_code 69 = .ok (.getfield 20, 3) := by decide +kernel
theorem dN_72 : decode prog_14_method_7_code 72 = .ok (.iload_n 1, 1) := by decide +kernel
theorem dN_73 : decode prog_14_method_7_code 73 = .ok (.iastore, 1) := by decide +kernel
theorem dN_74 : decode prog_14_method_7_code 74 = .ok (.aload_n 0, 1) := by decide +kernel
theorem dN_75 : decode prog_14_method_7_code 75 = .ok (.getfield 13, 3) := by decide +kernel
theorem dN_78 : decode prog_14_method_7_code 78 = .ok (.iload_n 1, 1) := by decide +kernel
theorem dN_79 : decode prog_14_method_7_code 79 = .ok (.aload_n 0, 1) := by decide +kernel
theorem dN_80 : decode prog_14_method_7_code 80 = .ok (.getfield 20, 3) := by decide +kernel
theorem dN_83 : decode prog_14_method_7_code 83 = .ok (.iastore, 1) := by decide +kernel
theorem dN_84 : decode prog_14_method_7_code 84 = .ok (.aload_n 0, 1) := by decide +kernel
theorem dN_85 : decode prog_14_method_7_code 85 = .ok (.dup, 1) := by decide +kernel
theorem dN_86 : decode prog_14_method_7_code 86 = .ok (.getfield 20, 3) := by decide +kernel
theorem dN_89 : decode prog_14_method_7_code 89 = .ok (.iconst 1, 1) := by decide +kernel
theorem dN_90 : decode prog_14_method_7_code 90 = .ok (.iadd, 1) := by decide +kernel
theorem dN_91 : decode prog_14_method_7_code 91 = .ok (.putfield 20, 3) := by decide +kernel
theorem dN_94 : decode prog_14_method_7_code 94 = .ok (.aload_n 0, 1) := by decide +kernel
theorem dN_95 : decode prog_14_method_7_code 95 = .ok (.iload_n 1, 1) := by decide +kernel
theorem dN_96 : decode prog_14_method_7_code 96 = .ok (.putfield 29, 3) := by decide +kernel
theorem dN_99 : decode prog_14_method_7_code 99 = .ok (.iload_n 1, 1) := by decide +kernel
theorem dN_100 : decode prog_14_method_7_code 100 = .ok (.ireturn, 1) := by decide +kernel
theorem pdN_0 : parseMethodDescriptor "(I)I" = some ⟨[.int], some .int⟩ := by decide +kernel
theorem pfN : plainFor (⟨"com/example/chronoquorum/chronoquorum/LiveNodes", "join", "()I"⟩ : MethodName) = true := by decide +kernel
set_option maxHeartbeats 4000000 in
theorem efN (m : MethodId) (a : Addr) : entryFrame m #[(.ref a)] 2 = (mkF m 0 #[.val (.ref a), .unset] []) := by first | (simp [entryFrame, mkF, argsToLocals, Value.category, maxLocals]; done) | rfl
def QN (Z : State) (a : Addr) (ai : Addr) (ap : Addr) (sz : Int32) (la : Int32) (nI : Nat) (nP : Nat) (I : Nat → Int32) (P : Nat → Int32) (zI : Int32) (zP : Int32) (h0 : Heap) (n0 : Nat) (v : Option Value) (h : Heap) (L : List Loc) : Prop := (∃ r : Int32, v = some (.int r) ∧ True) ∧ Fr n0 L ∧ Keep h0 h [a, ai, ap] ∧ ∃ (sz' la' : Int32) (I' P' : Nat → Int32), Exa Z h a "com/example/chronoquorum/chronoquorum/LiveNodes" ∧ Fld Z h a "com/example/chronoquorum/chronoquorum/LiveNodes" "ids" "[I" (.ref ai) ∧ Fld Z h a "com/example/chronoquorum/chronoquorum/LiveNodes" "positions" "[I" (.ref ap) ∧ Fld Z h a "com/example/chronoquorum/chronoquorum/LiveNodes" "size" "I" (.int sz') ∧ Fld Z h a "com/example/chronoquorum/chronoquorum/LiveNodes" "lastId" "I" (.int la') ∧ own_AI Z h ai .int nI I' ∧ own_AI Z h ap .int nP P' ∧ sz'.toInt = sz.toInt + 1 ∧ la'.toInt = la.toInt + 1 ∧ own_jn sz.toInt la.toInt I P I' P'
set_option maxRecDepth 65536 in
set_option maxHeartbeats 40000000 in
theorem rmN (l : Launch) (Z : State) (a0 : Array Value) (hw : ∀ d ∈ tables_1, d.before a0 Z = true) (ws : List Jvm.Cond) (a : Addr) (ai : Addr) (ap : Addr) (sz : Int32) (la : Int32) (nI : Nat) (nP : Nat) (I : Nat → Int32) (P : Nat → Int32) (zI : Int32) (zP : Int32) (h0 : Heap) (n0 : Nat) (Z0 : n0 ≤ h0.size) (E_a : Exa Z h0 a "com/example/chronoquorum/chronoquorum/LiveNodes") (F_ids_a : Fld Z h0 a "com/example/chronoquorum/chronoquorum/LiveNodes" "ids" "[I" (.ref ai)) (F_positions_a : Fld Z h0 a "com/example/chronoquorum/chronoquorum/LiveNodes" "positions" "[I" (.ref ap)) (F_size_a : Fld Z h0 a "com/example/chronoquorum/chronoquorum/LiveNodes" "size" "I" (.int sz)) (F_lastId_a : Fld Z h0 a "com/example/chronoquorum/chronoquorum/LiveNodes" "lastId" "I" (.int la)) (A_ai : own_AI Z h0 ai .int nI I) (A_ap : own_AI Z h0 ap .int nP P) (g_a : n0 ≤ a) (g_ai : n0 ≤ ai) (g_ap : n0 ≤ ap) (ne_a_ai : a ≠ ai) (ne_a_ap : a ≠ ap) (ne_ai_ap : ai ≠ ap) (hzI : zI.toInt = nI) (hzP : zP.toInt = nP) (hp : 0 ≤ sz.toInt ∧ sz.toInt < nI ∧ 0 ≤ la.toInt ∧ la.toInt + 1 < nP ∧ nI ≤ 8 ∧ nP ≤ 8) :
    MetFree l (⟨"com/example/chronoquorum/chronoquorum/LiveNodes", "join", "()I"⟩ : MethodName) (head1 (Jvm.Cond.code (⟨"com/example/chronoquorum/chronoquorum/LiveNodes", "join", "()I"⟩ : MethodName) prog_14_method_7_code 2 (some Jvm.ClassFile.FieldType.int) :: ws) ({ frames := 2, cells := 0, slots := 0, locals := 40 } : Room)) (fun aa U => aa = #[(.ref a)] ∧ Z.Warmed39 U.vm ∧ U.heap = h0) (fun _ _ _ _ _ => True) (fun _ U o U' => ∃ v L, o = .returned v ∧ QN Z a ai ap sz la nI nP I P zI zP h0 n0 v U'.heap L ∧ FrameEnd U o U' L ({ frames := 2, cells := 0, slots := 0, locals := 40 } : Room).cells ({ frames := 2, cells := 0, slots := 0, locals := 40 } : Room).slots) := by
  refine own_met pfN ?_
  intro p e s m below meth c T0 hx hby hml hown hret hlk hnm hZ X0 e0
  have N0 := Fr.nil n0
  have K0 := Keep.refl h0 [a, ai, ap]
  have r_sz := rng32 sz
  have r_la := rng32 la
  have r_zI := rng32 zI
  have r_zP := rng32 zP
  rw [efN]
  refine own_go (mkF m 1 #[.val (.ref a), .unset] [(.ref a)]) (fun t k => XS.aloadN X0.here hx rfl (hb hby dN_0) rfl rfl k) ?_
  obtain ⟨T1, X1, e1, st1⟩ := getF X0 hx hZ hown (host := "") (Or.inl (hw _ (List.mem_of_getElem? (i := 19) rfl))) Via.refl e0 F_lastId_a (g := (mkF m 1 #[.val (.ref a), .unset] [(.ref a)])) rfl rfl (hb hby dN_1)
  refine own_go (T' := T1) (mkF m 4 #[.val (.ref a), .unset] [(.int la)]) st1 ?_
  refine own_callS X1 hx hZ (y := (⟨"java/lang/Math", "incrementExact", "(I)I"⟩ : MethodName)) hown (hw _ (List.mem_of_getElem? (i := 31) rfl)) (hw _ (List.mem_of_getElem? (i := 32) rfl)) (hw _ (List.mem_of_getElem? (i := 33) rfl)) (hw _ (List.mem_of_getElem? (i := 34) rfl)) (by decide) e1 (rmI l Z a0 hw [] la h0 n0 Z0 (by omega)) 0 (by decide) (by decide) (by decide) (by decide) (g := (mkF m 4 #[.val (.ref a), .unset] [(.int la)])) rfl (by rw [hml]; rfl) [(.int la)] [] (lenOf pdN_0 rfl) rfl rfl (by show 2 * 0 + _ ≤ _; exact Nat.le_of_eq rfl) (hb hby dN_4) ?_
  intro rv4 T4 h4 L4 X4 e4 hQ4
  obtain ⟨⟨r4, rfl, hr4⟩, NQ4, eq4⟩ := hQ4
  rw [eq4] at e4
  have rr4 := rng32 r4
  have N4 := Fr.app N0 NQ4
  show own_Ends p e below s ({ frames := 2, cells := 0, slots := 0, locals := 40 } : Room).cells ({ frames := 2, cells := 0, slots := 0, locals := 40 } : Room).slots (QN Z a ai ap sz la nI nP I P zI zP h0 n0) T4 (mkF m 7 #[.val (.ref a), .unset] [(.int r4)])
  refine own_go (mkF m 8 #[.val (.ref a), .val (.int r4)] []) (fun t k => XS.istoreN X4.here hx rfl (hb hby dN_7) rfl (l' := #[.val (.ref a), .val (.int r4)]) rfl k) ?_
  refine own_go (mkF m 9 #[.val (.ref a), .val (.int r4)] [(.ref a)]) (fun t k => XS.aloadN X4.here hx rfl (hb hby dN_8) rfl rfl k) ?_
  obtain ⟨T9, X9, e9, st9⟩ := getF X4 hx hZ hown (host := "") (Or.inl (hw _ (List.mem_of_getElem? (i := 36) rfl))) Via.refl e4 F_size_a (g := (mkF m 9 #[.val (.ref a), .val (.int r4)] [(.ref a)])) rfl rfl (hb hby dN_9)
  refine own_go (T' := T9) (mkF m 12 #[.val (.ref a), .val (.int r4)] [(.int sz)]) st9 ?_
  refine own_go (mkF m 13 #[.val (.ref a), .val (.int r4)] [(.ref a), (.int sz)]) (fun t k => XS.aloadN X9.here hx rfl (hb hby dN_12) rfl rfl k) ?_
  obtain ⟨T13, X13, e13, st13⟩ := getF X9 hx hZ hown (host := "") (Or.inl (hw _ (List.mem_of_getElem? (i := 10) rfl))) Via.refl e9 F_ids_a (g := (mkF m 13 #[.val (.ref a), .val (.int r4)] [(.ref a), (.int sz)])) rfl rfl (hb hby dN_13)
  refine own_go (T' := T13) (mkF m 16 #[.val (.ref a), .val (.int r4)] [(.ref ai), (.int sz)]) st13 ?_
  refine own_alen X13 hx hZ e13 A_ai zI hzI (g := (mkF m 16 #[.val (.ref a), .val (.int r4)] [(.ref ai), (.int sz)])) rfl rfl (hb hby dN_16) ?_
  show own_Ends p e below s ({ frames := 2, cells := 0, slots := 0, locals := 40 } : Room).cells ({ frames := 2, cells := 0, slots := 0, locals := 40 } : Room).slots (QN Z a ai ap sz la nI nP I P zI zP h0 n0) T13 (mkF m 17 #[.val (.ref a), .val (.int r4)] [(.int zI), (.int sz)])
  have c17 : ¬ (sz.toInt = zI.toInt) := by omega
  refine own_go (mkF m 41 #[.val (.ref a), .val (.int r4)] []) (fun t k => XS.icmpYes X13.here hx rfl (pc0 := 17) (pc' := 41) rfl (hb hby dN_17) rfl (own_icT (cd := .ne) c17) (by decide) (by decide) k) ?_
  refine own_go (mkF m 42 #[.val (.ref a), .val (.int r4)] [(.int r4)]) (fun t k => XS.iloadN X13.here hx rfl (hb hby dN_41) rfl k) ?_
  refine own_go (mkF m 43 #[.val (.ref a), .val (.int r4)] [(.ref a), (.int r4)]) (fun t k => XS.aloadN X13.here hx rfl (hb hby dN_42) rfl rfl k) ?_
  obtain ⟨T43, X43, e43, st43⟩ := getF X13 hx hZ hown (host := "") (Or.inl (hw _ (List.mem_of_getElem? (i := 12) rfl))) Via.refl e13 F_positions_a (g := (mkF m 43 #[.val (.ref a), .val (.int r4)] [(.ref a), (.int r4)])) rfl rfl (hb hby dN_43)
  refine own_go (T' := T43) (mkF m 46 #[.val (.ref a), .val (.int r4)] [(.ref ap), (.int r4)]) st43 ?_
  refine own_alen X43 hx hZ e43 A_ap zP hzP (g := (mkF m 46 #[.val (.ref a), .val (.int r4)] [(.ref ap), (.int r4)])) rfl rfl (hb hby dN_46) ?_
  show own_Ends p e below s ({ frames := 2, cells := 0, slots := 0, locals := 40 } : Room).cells ({ frames := 2, cells := 0, slots := 0, locals := 40 } : Room).slots (QN Z a ai ap sz la nI nP I P zI zP h0 n0) T43 (mkF m 47 #[.val (.ref a), .val (.int r4)] [(.int zP), (.int r4)])
  have c47 : ¬ (r4.toInt = zP.toInt) := by omega
  refine own_go (mkF m 64 #[.val (.ref a), .val (.int r4)] []) (fun t k => XS.icmpYes X43.here hx rfl (pc0 := 47) (pc' := 64) rfl (hb hby dN_47) rfl (own_icT (cd := .ne) c47) (by decide) (by decide) k) ?_
  refine own_go (mkF m 65 #[.val (.ref a), .val (.int r4)] [(.ref a)]) (fun t k => XS.aloadN X43.here hx rfl (hb hby dN_64) rfl rfl k) ?_
  obtain ⟨T65, X65, e65, st65⟩ := getF X43 hx hZ hown (host := "") (Or.inl (hw _ (List.mem_of_getElem? (i := 10) rfl))) Via.refl e43 F_ids_a (g := (mkF m 65 #[.val (.ref a), .val (.int r4)] [(.ref a)])) rfl rfl (hb hby dN_65)
  refine own_go (T' := T65) (mkF m 68 #[.val (.ref a), .val (.int r4)] [(.ref ai)]) st65 ?_
  refine own_go (mkF m 69 #[.val (.ref a), .val (.int r4)] [(.ref a), (.ref ai)]) (fun t k => XS.aloadN X65.here hx rfl (hb hby dN_68) rfl rfl k) ?_
  obtain ⟨T69, X69, e69, st69⟩ := getF X65 hx hZ hown (host := "") (Or.inl (hw _ (List.mem_of_getElem? (i := 36) rfl))) Via.refl e65 F_size_a (g := (mkF m 69 #[.val (.ref a), .val (.int r4)] [(.ref a), (.ref ai)])) rfl rfl (hb hby dN_69)
  refine own_go (T' := T69) (mkF m 72 #[.val (.ref a), .val (.int r4)] [(.int sz), (.ref ai)]) st69 ?_
  refine own_go (mkF m 73 #[.val (.ref a), .val (.int r4)] [(.int r4), (.int sz), (.ref ai)]) (fun t k => XS.iloadN X69.here hx rfl (hb hby dN_72) rfl k) ?_
  refine own_iastore X69 hx hZ e69 A_ai (j := sz) (x := r4) (by omega) (by omega) (g := (mkF m 73 #[.val (.ref a), .val (.int r4)] [(.int r4), (.int sz), (.ref ai)])) rfl rfl (hb hby dN_73) ?_
  intro T73 h73 F73 X73 e73 W73 hF73 A73
  have N73 := Fr.snoc X73 N4 g_ai
  have E_a_73 := E_a.wr W73
  have F_ids_a_73 := F_ids_a.other W73 (Or.inl ne_a_ai)
  have F_positions_a_73 := F_positions_a.other W73 (Or.inl ne_a_ai)
  have F_size_a_73 := F_size_a.other W73 (Or.inl ne_a_ai)
  have F_lastId_a_73 := F_lastId_a.other W73 (Or.inl ne_a_ai)
  have A_ap_73 := own_Av.other A_ap W73 (Ne.symm ne_ai_ap)
  have K0_73 := K0.wr W73 (Or.inl (by simp))
  have Z0_73 : n0 ≤ h73.size := by rw [W73.size]; exact Z0
  show own_Ends p e below s ({ frames := 2, cells := 0, slots := 0, locals := 40 } : Room).cells ({ frames := 2, cells := 0, slots := 0, locals := 40 } : Room).slots (QN Z a ai ap sz la nI nP I P zI zP h0 n0) T73 (mkF m 74 #[.val (.ref a), .val (.int r4)] [])
  refine own_go (mkF m 75 #[.val (.ref a), .val (.int r4)] [(.ref a)]) (fun t k => XS.aloadN X73.here hx rfl (hb hby dN_74) rfl rfl k) ?_
  obtain ⟨T75, X75, e75, st75⟩ := getF X73 hx hZ hown (host := "") (Or.inl (hw _ (List.mem_of_getElem? (i := 12) rfl))) Via.refl e73 F_positions_a_73 (g := (mkF m 75 #[.val (.ref a), .val (.int r4)] [(.ref a)])) rfl rfl (hb hby dN_75)
  refine own_go (T' := T75) (mkF m 78 #[.val (.ref a), .val (.int r4)] [(.ref ap)]) st75 ?_
  refine own_go (mkF m 79 #[.val (.ref a), .val (.int r4)] [(.int r4), (.ref ap)]) (fun t k => XS.iloadN X75.here hx rfl (hb hby dN_78) rfl k) ?_
  refine own_go (mkF m 80 #[.val (.ref a), .val (.int r4)] [(.ref a), (.int r4), (.ref ap)]) (fun t k => XS.aloadN X75.here hx rfl (hb hby dN_79) rfl rfl k) ?_
  obtain ⟨T80, X80, e80, st80⟩ := getF X75 hx hZ hown (host := "") (Or.inl (hw _ (List.mem_of_getElem? (i := 36) rfl))) Via.refl e75 F_size_a_73 (g := (mkF m 80 #[.val (.ref a), .val (.int r4)] [(.ref a), (.int r4), (.ref ap)])) rfl rfl (hb hby dN_80)
  refine own_go (T' := T80) (mkF m 83 #[.val (.ref a), .val (.int r4)] [(.int sz), (.int r4), (.ref ap)]) st80 ?_
  refine own_iastore X80 hx hZ e80 A_ap_73 (j := r4) (x := sz) (by omega) (by omega) (g := (mkF m 83 #[.val (.ref a), .val (.int r4)] [(.int sz), (.int r4), (.ref ap)])) rfl rfl (hb hby dN_83) ?_
  intro T83 h83 F83 X83 e83 W83 hF83 A83
  have N83 := Fr.snoc X83 N73 g_ap
  have E_a_83 := E_a_73.wr W83
  have F_ids_a_83 := F_ids_a_73.other W83 (Or.inl ne_a_ap)
  have F_positions_a_83 := F_positions_a_73.other W83 (Or.inl ne_a_ap)
  have F_size_a_83 := F_size_a_73.other W83 (Or.inl ne_a_ap)
  have F_lastId_a_83 := F_lastId_a_73.other W83 (Or.inl ne_a_ap)
  have K0_83 := K0_73.wr W83 (Or.inl (by simp))
  have Z0_83 : n0 ≤ h83.size := by rw [W83.size]; exact Z0_73
  have A73_83 := own_Av.other A73 W83 ne_ai_ap
  show own_Ends p e below s ({ frames := 2, cells := 0, slots := 0, locals := 40 } : Room).cells ({ frames := 2, cells := 0, slots := 0, locals := 40 } : Room).slots (QN Z a ai ap sz la nI nP I P zI zP h0 n0) T83 (mkF m 84 #[.val (.ref a), .val (.int r4)] [])
  refine own_go (mkF m 85 #[.val (.ref a), .val (.int r4)] [(.ref a)]) (fun t k => XS.aloadN X83.here hx rfl (hb hby dN_84) rfl rfl k) ?_
  refine own_go (mkF m 86 #[.val (.ref a), .val (.int r4)] [(.ref a), (.ref a)]) (fun t k => XS.dup X83.here hx rfl (hb hby dN_85) rfl rfl k) ?_
  obtain ⟨T86, X86, e86, st86⟩ := getF X83 hx hZ hown (host := "") (Or.inl (hw _ (List.mem_of_getElem? (i := 36) rfl))) Via.refl e83 F_size_a_83 (g := (mkF m 86 #[.val (.ref a), .val (.int r4)] [(.ref a), (.ref a)])) rfl rfl (hb hby dN_86)
  refine own_go (T' := T86) (mkF m 89 #[.val (.ref a), .val (.int r4)] [(.int sz), (.ref a)]) st86 ?_
  refine own_go (mkF m 90 #[.val (.ref a), .val (.int r4)] [(.int (1 : Int32)), (.int sz), (.ref a)]) (fun t k => XS.iconst X86.here hx rfl (hb hby dN_89) k) ?_
  refine own_go (mkF m 91 #[.val (.ref a), .val (.int r4)] [(.int (sz + (1 : Int32))), (.ref a)]) (fun t k => XS.iadd X86.here hx rfl (hb hby dN_90) rfl k) ?_
  generalize hv90 : (sz + (1 : Int32)) = v90
  have f90 : (v90.toInt - (sz.toInt + 1)) % 4294967296 = 0 := by rw [← hv90]; exact c_iadd sz (1 : Int32)
  have r90 := rng32 v90
  obtain ⟨T91, h91, X91, e91, W91, st91⟩ := putF X86 hx hZ hown (host := "") (Or.inl (hw _ (List.mem_of_getElem? (i := 36) rfl))) Via.refl e86 F_size_a_83 E_a_83 (Or.inl (hw _ (List.mem_of_getElem? (i := 37) rfl))) (hw _ (List.mem_of_getElem? (i := 1) rfl)) (ty := .int) (by decide) rfl rfl (g := (mkF m 91 #[.val (.ref a), .val (.int r4)] [(.int v90), (.ref a)])) rfl rfl (hb hby dN_91)
  have N91 := Fr.snoc X91 N83 g_a
  have E_a_91 := E_a_83.wr W91
  have F_ids_a_91 := F_ids_a_83.other W91 (Or.inr (slot_ne (Or.inl (hw _ (List.mem_of_getElem? (i := 11) rfl))) (Or.inl (hw _ (List.mem_of_getElem? (i := 37) rfl))) (by decide) (t := (.array .int)) (t' := .int) (by decide) (by decide)))
  have F_positions_a_91 := F_positions_a_83.other W91 (Or.inr (slot_ne (Or.inl (hw _ (List.mem_of_getElem? (i := 13) rfl))) (Or.inl (hw _ (List.mem_of_getElem? (i := 37) rfl))) (by decide) (t := (.array .int)) (t' := .int) (by decide) (by decide)))
  have F_size_a_91 := F_size_a_83.same W91
  have F_lastId_a_91 := F_lastId_a_83.other W91 (Or.inr (slot_ne (Or.inl (hw _ (List.mem_of_getElem? (i := 20) rfl))) (Or.inl (hw _ (List.mem_of_getElem? (i := 37) rfl))) (by decide) (t := .int) (t' := .int) (by decide) (by decide)))
  have K0_91 := K0_83.wr W91 (Or.inl (by simp))
  have Z0_91 : n0 ≤ h91.size := by rw [W91.size]; exact Z0_83
  have A73_91 := own_Av.other A73_83 W91 (Ne.symm ne_a_ai)
  have A83_91 := own_Av.other A83 W91 (Ne.symm ne_a_ap)
  refine own_go (T' := T91) (mkF m 94 #[.val (.ref a), .val (.int r4)] []) st91 ?_
  refine own_go (mkF m 95 #[.val (.ref a), .val (.int r4)] [(.ref a)]) (fun t k => XS.aloadN X91.here hx rfl (hb hby dN_94) rfl rfl k) ?_
  refine own_go (mkF m 96 #[.val (.ref a), .val (.int r4)] [(.int r4), (.ref a)]) (fun t k => XS.iloadN X91.here hx rfl (hb hby dN_95) rfl k) ?_
  obtain ⟨T96, h96, X96, e96, W96, st96⟩ := putF X91 hx hZ hown (host := "") (Or.inl (hw _ (List.mem_of_getElem? (i := 19) rfl))) Via.refl e91 F_lastId_a_91 E_a_91 (Or.inl (hw _ (List.mem_of_getElem? (i := 20) rfl))) (hw _ (List.mem_of_getElem? (i := 1) rfl)) (ty := .int) (by decide) rfl rfl (g := (mkF m 96 #[.val (.ref a), .val (.int r4)] [(.int r4), (.ref a)])) rfl rfl (hb hby dN_96)
  have N96 := Fr.snoc X96 N91 g_a
  have E_a_96 := E_a_91.wr W96
  have F_ids_a_96 := F_ids_a_91.other W96 (Or.inr (slot_ne (Or.inl (hw _ (List.mem_of_getElem? (i := 11) rfl))) (Or.inl (hw _ (List.mem_of_getElem? (i := 20) rfl))) (by decide) (t := (.array .int)) (t' := .int) (by decide) (by decide)))
  have F_positions_a_96 := F_positions_a_91.other W96 (Or.inr (slot_ne (Or.inl (hw _ (List.mem_of_getElem? (i := 13) rfl))) (Or.inl (hw _ (List.mem_of_getElem? (i := 20) rfl))) (by decide) (t := (.array .int)) (t' := .int) (by decide) (by decide)))
  have F_size_a_96 := F_size_a_91.other W96 (Or.inr (slot_ne (Or.inl (hw _ (List.mem_of_getElem? (i := 37) rfl))) (Or.inl (hw _ (List.mem_of_getElem? (i := 20) rfl))) (by decide) (t := .int) (t' := .int) (by decide) (by decide)))
  have F_lastId_a_96 := F_lastId_a_91.same W96
  have K0_96 := K0_91.wr W96 (Or.inl (by simp))
  have Z0_96 : n0 ≤ h96.size := by rw [W96.size]; exact Z0_91
  have A73_96 := own_Av.other A73_91 W96 (Ne.symm ne_a_ai)
  have A83_96 := own_Av.other A83_91 W96 (Ne.symm ne_a_ap)
  refine own_go (T' := T96) (mkF m 99 #[.val (.ref a), .val (.int r4)] []) st96 ?_
  refine own_go (mkF m 100 #[.val (.ref a), .val (.int r4)] [(.int r4)]) (fun t k => XS.iloadN X96.here hx rfl (hb hby dN_99) rfl k) ?_
  refine own_retI X96 hx hlk hret (by simp) rfl (hb hby dN_100) (by decide) (by decide) ?_
  rw [e96]
  have hJ : ∀ i : Int, 0 ≤ i → i < sz.toInt → own_G I i = own_G I i := fun i _ _ => rfl
  have hO : ∀ i : Int, 1 ≤ i → i ≤ la.toInt → own_G P i = own_G P i := fun i _ _ => rfl
  have hj : own_jn sz.toInt la.toInt I P F73 F83 := own_jn_of (by omega) (by omega) hJ hO hF73 (by rw [hF83, hr4]) hr4 rfl
  exact ⟨⟨_, rfl, trivial⟩, N96, K0_96, _, _, F73, F83, E_a_96, F_ids_a_96, F_positions_a_96, F_size_a_96, F_lastId_a_96, A73_96, A83_96, by omega, by omega, hj⟩
theorem dJ_0 : decode prog_14_method_7_code 0 = .ok (.aload_n 0, 1) := by decide +kernel
theorem dJ_1 : decode prog_14_method_7_code 1 = .ok (.getfield 29, 3) := by decide +kernel
theorem dJ_4 : decode prog_14_method_7_code 4 = .ok (.invokestatic 49, 3) := by decide +kernel
theorem dJ_7 : decode prog_14_method_7_code 7 = .ok (.istore_n 1, 1) := by decide +kernel
theorem dJ_8 : decode prog_14_method_7_code 8 = .ok (.aload_n 0, 1) := by decide +kernel
theorem dJ_9 : decode prog_14_method_7_code 9 = .ok (.getfield 20, 3) := by decide +kernel
theorem dJ_12 : decode prog_14_method_7_code 12 = .ok (.aload_n 0, 1) := by decide +kernel
theorem dJ_13 : decode prog_14_method_7_code 13 = .ok (.getfield 7, 3) := by decide +kernel
theorem dJ_16 : decode prog_14_method_7_code 16 = .ok (.arraylength, 1) := by decide +kernel
theorem dJ_17 : decode prog_14_method_7_code 17 = .ok (.if_icmp .ne 24, 3) := by decide +kernel
theorem dJ_20 : decode prog_14_method_7_code 20 = .ok (.aload_n 0, 1) := by decide +kernel
theorem dJ_21 : decode prog_14_method_7_code 21 = .ok (.aload_n 0, 1) := by decide +kernel
theorem dJ_22 : decode prog_14_method_7_code 22 = .ok (.getfield 7, 3) := by decide +kernel
theorem dJ_25 : decode prog_14_method_7_code 25 = .ok (.iconst 1, 1) := by decide +kernel
theorem dJ_26 : decode prog_14_method_7_code 26 = .ok (.iconst 2, 1) := by decide +kernel
theorem dJ_27 : decode prog_14_method_7_code 27 = .ok (.aload_n 0, 1) := by decide +kernel
theorem dJ_28 : decode prog_14_method_7_code 28 = .ok (.getfield 20, 3) := by decide +kernel
theorem dJ_31 : decode prog_14_method_7_code 31 = .ok (.imul, 1) := by decide +kernel
theorem dJ_32 : decode prog_14_method_7_code 32 = .ok (.invokestatic 54, 3) := by decide +kernel
theorem dJ_35 : decode prog_14_method_7_code 35 = .ok (.invokestatic 58, 3) := by decide +kernel
theorem dJ_38 : decode prog_14_method_7_code 38 = .ok (.putfield 7, 3) := by decide +kernel
theorem dJ_41 : decode prog_14_method_7_code 41 = .ok (.iload_n 1, 1) := by decide +kernel
theorem dJ_42 : decode prog_14_method_7_code 42 = .ok (.aload_n 0, 1) := by decide +kernel
theorem dJ_43 : decode prog_14_method_7_code 43 = .ok (.getfield 13, 3) := by decide +kernel
theorem dJ_46 : decode prog_14_method_7_code 46 = .ok (.arraylength, 1) := by decide +kernel
theorem dJ_47 : decode prog_14_method_7_code 47 = .ok (.if_icmp .ne 17, 3) := by decide +kernel
theorem dJ_50 : decode prog_14_method_7_code 50 = .ok (.aload_n 0, 1) := by decide +kernel
theorem dJ_51 : decode prog_14_method_7_code 51 = .ok (.aload_n 0, 1) := by decide +kernel
theorem dJ_52 : decode prog_14_method_7_code 52 = .ok (.getfield 13, 3) := by decide +kernel
theorem dJ_55 : decode prog_14_method_7_code 55 = .ok (.iconst 2, 1) := by decide +kernel
theorem dJ_56 : decode prog_14_method_7_code 56 = .ok (.iload_n 1, 1) := by decide +kernel
theorem dJ_57 : decode prog_14_method_7_code 57 = .ok (.imul, 1) := by decide +kernel
theorem dJ_58 : decode prog_14_method_7_code 58 = .ok (.invokestatic 58, 3) := by decide +kernel
theorem dJ_61 : decode prog_14_method_7_code 61 = .ok (.putfield 13, 3) := by decide +kernel
theorem dJ_64 : decode prog_14_method_7_code 64 = .ok (.aload_n 0, 1) := by decide +kernel
theorem dJ_65 : decode prog_14_method_7_code 65 = .ok (.getfield 7, 3) := by decide +kernel
theorem dJ_68 : decode prog_14_method_7_code 68 = .ok (.aload_n 0, 1) := by decide +kernel
theorem dJ_69 : decode prog_14_method_7_code 69 = .ok (.getfield 20, 3) := by decide +kernel
theorem dJ_72 : decode prog_14_method_7_code 72 = .ok (.iload_n 1, 1) := by decide +kernel
theorem dJ_73 : decode prog_14_method_7_code 73 = .ok (.iastore, 1) := by decide +kernel
theorem dJ_74 : decode prog_14_method_7_code 74 = .ok (.aload_n 0, 1) := by decide +kernel
theorem dJ_75 : decode prog_14_method_7_code 75 = .ok (.getfield 13, 3) := by decide +kernel
theorem dJ_78 : decode prog_14_method_7_code 78 = .ok (.iload_n 1, 1) := by decide +kernel
theorem dJ_79 : decode prog_14_method_7_code 79 = .ok (.aload_n 0, 1) := by decide +kernel
theorem dJ_80 : decode prog_14_method_7_code 80 = .ok (.getfield 20, 3) := by decide +kernel
theorem dJ_83 : decode prog_14_method_7_code 83 = .ok (.iastore, 1) := by decide +kernel
theorem dJ_84 : decode prog_14_method_7_code 84 = .ok (.aload_n 0, 1) := by decide +kernel
theorem dJ_85 : decode prog_14_method_7_code 85 = .ok (.dup, 1) := by decide +kernel
theorem dJ_86 : decode prog_14_method_7_code 86 = .ok (.getfield 20, 3) := by decide +kernel
theorem dJ_89 : decode prog_14_method_7_code 89 = .ok (.iconst 1, 1) := by decide +kernel
theorem dJ_90 : decode prog_14_method_7_code 90 = .ok (.iadd, 1) := by decide +kernel
theorem dJ_91 : decode prog_14_method_7_code 91 = .ok (.putfield 20, 3) := by decide +kernel
theorem dJ_94 : decode prog_14_method_7_code 94 = .ok (.aload_n 0, 1) := by decide +kernel
theorem dJ_95 : decode prog_14_method_7_code 95 = .ok (.iload_n 1, 1) := by decide +kernel
theorem dJ_96 : decode prog_14_method_7_code 96 = .ok (.putfield 29, 3) := by decide +kernel
theorem dJ_99 : decode prog_14_method_7_code 99 = .ok (.iload_n 1, 1) := by decide +kernel
theorem dJ_100 : decode prog_14_method_7_code 100 = .ok (.ireturn, 1) := by decide +kernel
theorem pdJ_0 : parseMethodDescriptor "(I)I" = some ⟨[.int], some .int⟩ := by decide +kernel
theorem pdJ_1 : parseMethodDescriptor "(II)I" = some ⟨[.int, .int], some .int⟩ := by decide +kernel
theorem pdJ_2 : parseMethodDescriptor "([II)[I" = some ⟨[(.array .int), .int], some (.array .int)⟩ := by decide +kernel
theorem pfJ : plainFor (⟨"com/example/chronoquorum/chronoquorum/LiveNodes", "join", "()I"⟩ : MethodName) = true := by decide +kernel
set_option maxHeartbeats 4000000 in
theorem efJ (m : MethodId) (a : Addr) : entryFrame m #[(.ref a)] 2 = (mkF m 0 #[.val (.ref a), .unset] []) := by first | (simp [entryFrame, mkF, argsToLocals, Value.category, maxLocals]; done) | rfl
def QJ (Z : State) (a : Addr) (ai : Addr) (ap : Addr) (sz : Int32) (la : Int32) (nI : Nat) (nP : Nat) (I : Nat → Int32) (P : Nat → Int32) (zI : Int32) (zP : Int32) (h0 : Heap) (n0 : Nat) (v : Option Value) (h : Heap) (L : List Loc) : Prop := (∃ r : Int32, v = some (.int r) ∧ True) ∧ Fr n0 L ∧ Keep h0 h [a, ai, ap] ∧ ∃ (ai' ap' : Addr) (sz' la' : Int32) (nI' nP' : Nat) (I' P' : Nat → Int32), Exa Z h a "com/example/chronoquorum/chronoquorum/LiveNodes" ∧ Fld Z h a "com/example/chronoquorum/chronoquorum/LiveNodes" "ids" "[I" (.ref ai') ∧ Fld Z h a "com/example/chronoquorum/chronoquorum/LiveNodes" "positions" "[I" (.ref ap') ∧ Fld Z h a "com/example/chronoquorum/chronoquorum/LiveNodes" "size" "I" (.int sz') ∧ Fld Z h a "com/example/chronoquorum/chronoquorum/LiveNodes" "lastId" "I" (.int la') ∧ own_AI Z h ai' .int nI' I' ∧ own_AI Z h ap' .int nP' P' ∧ n0 ≤ ai' ∧ n0 ≤ ap' ∧ a ≠ ai' ∧ a ≠ ap' ∧ ai' ≠ ap' ∧ sz'.toInt = sz.toInt + 1 ∧ la'.toInt = la.toInt + 1 ∧ sz'.toInt ≤ nI' ∧ la'.toInt < nP' ∧ own_jn sz.toInt la.toInt I P I' P'
set_option maxRecDepth 65536 in
set_option maxHeartbeats 40000000 in
theorem rmJ (l : Launch) (Z : State) (a0 : Array Value) (hw : ∀ d ∈ tables_1, d.before a0 Z = true) (ws : List Jvm.Cond) (a : Addr) (ai : Addr) (ap : Addr) (sz : Int32) (la : Int32) (nI : Nat) (nP : Nat) (I : Nat → Int32) (P : Nat → Int32) (zI : Int32) (zP : Int32) (h0 : Heap) (n0 : Nat) (Z0 : n0 ≤ h0.size) (E_a : Exa Z h0 a "com/example/chronoquorum/chronoquorum/LiveNodes") (F_ids_a : Fld Z h0 a "com/example/chronoquorum/chronoquorum/LiveNodes" "ids" "[I" (.ref ai)) (F_positions_a : Fld Z h0 a "com/example/chronoquorum/chronoquorum/LiveNodes" "positions" "[I" (.ref ap)) (F_size_a : Fld Z h0 a "com/example/chronoquorum/chronoquorum/LiveNodes" "size" "I" (.int sz)) (F_lastId_a : Fld Z h0 a "com/example/chronoquorum/chronoquorum/LiveNodes" "lastId" "I" (.int la)) (A_ai : own_AI Z h0 ai .int nI I) (A_ap : own_AI Z h0 ap .int nP P) (g_a : n0 ≤ a) (g_ai : n0 ≤ ai) (g_ap : n0 ≤ ap) (ne_a_ai : a ≠ ai) (ne_a_ap : a ≠ ap) (ne_ai_ap : ai ≠ ap) (hzI : zI.toInt = nI) (hzP : zP.toInt = nP) (hp : 0 ≤ sz.toInt ∧ sz.toInt ≤ nI ∧ 0 ≤ la.toInt ∧ la.toInt < nP ∧ nI ≤ 8 ∧ nP ≤ 8) :
    MetFree l (⟨"com/example/chronoquorum/chronoquorum/LiveNodes", "join", "()I"⟩ : MethodName) (head1 (Jvm.Cond.code (⟨"com/example/chronoquorum/chronoquorum/LiveNodes", "join", "()I"⟩ : MethodName) prog_14_method_7_code 2 (some Jvm.ClassFile.FieldType.int) :: ws) ({ frames := 2, cells := 2, slots := 32, locals := 40 } : Room)) (fun aa U => aa = #[(.ref a)] ∧ Z.Warmed39 U.vm ∧ U.heap = h0) (fun _ _ _ _ _ => True) (fun _ U o U' => ∃ v L, o = .returned v ∧ QJ Z a ai ap sz la nI nP I P zI zP h0 n0 v U'.heap L ∧ FrameEnd U o U' L ({ frames := 2, cells := 2, slots := 32, locals := 40 } : Room).cells ({ frames := 2, cells := 2, slots := 32, locals := 40 } : Room).slots) := by
  refine own_met pfJ ?_
  intro p e s m below meth c T0 hx hby hml hown hret hlk hnm hZ X0 e0
  have N0 := Fr.nil n0
  have K0 := Keep.refl h0 [a, ai, ap]
  have r_sz := rng32 sz
  have r_la := rng32 la
  have r_zI := rng32 zI
  have r_zP := rng32 zP
  rw [efJ]
  refine own_go (mkF m 1 #[.val (.ref a), .unset] [(.ref a)]) (fun t k => XS.aloadN X0.here hx rfl (hb hby dJ_0) rfl rfl k) ?_
  obtain ⟨T1, X1, e1, st1⟩ := getF X0 hx hZ hown (host := "") (Or.inl (hw _ (List.mem_of_getElem? (i := 19) rfl))) Via.refl e0 F_lastId_a (g := (mkF m 1 #[.val (.ref a), .unset] [(.ref a)])) rfl rfl (hb hby dJ_1)
  refine own_go (T' := T1) (mkF m 4 #[.val (.ref a), .unset] [(.int la)]) st1 ?_
  refine own_callS X1 hx hZ (y := (⟨"java/lang/Math", "incrementExact", "(I)I"⟩ : MethodName)) hown (hw _ (List.mem_of_getElem? (i := 31) rfl)) (hw _ (List.mem_of_getElem? (i := 32) rfl)) (hw _ (List.mem_of_getElem? (i := 33) rfl)) (hw _ (List.mem_of_getElem? (i := 34) rfl)) (by decide) e1 (rmI l Z a0 hw [] la h0 n0 Z0 (by omega)) 0 (by decide) (by decide) (by decide) (by decide) (g := (mkF m 4 #[.val (.ref a), .unset] [(.int la)])) rfl (by rw [hml]; rfl) [(.int la)] [] (lenOf pdJ_0 rfl) rfl rfl (by show 2 * 0 + _ ≤ _; exact Nat.le_of_eq rfl) (hb hby dJ_4) ?_
  intro rv4 T4 h4 L4 X4 e4 hQ4
  obtain ⟨⟨r4, rfl, hr4⟩, NQ4, eq4⟩ := hQ4
  rw [eq4] at e4
  have rr4 := rng32 r4
  have N4 := Fr.app N0 NQ4
  show own_Ends p e below s ({ frames := 2, cells := 2, slots := 32, locals := 40 } : Room).cells ({ frames := 2, cells := 2, slots := 32, locals := 40 } : Room).slots (QJ Z a ai ap sz la nI nP I P zI zP h0 n0) T4 (mkF m 7 #[.val (.ref a), .unset] [(.int r4)])
  refine own_go (mkF m 8 #[.val (.ref a), .val (.int r4)] []) (fun t k => XS.istoreN X4.here hx rfl (hb hby dJ_7) rfl (l' := #[.val (.ref a), .val (.int r4)]) rfl k) ?_
  refine own_go (mkF m 9 #[.val (.ref a), .val (.int r4)] [(.ref a)]) (fun t k => XS.aloadN X4.here hx rfl (hb hby dJ_8) rfl rfl k) ?_
  obtain ⟨T9, X9, e9, st9⟩ := getF X4 hx hZ hown (host := "") (Or.inl (hw _ (List.mem_of_getElem? (i := 36) rfl))) Via.refl e4 F_size_a (g := (mkF m 9 #[.val (.ref a), .val (.int r4)] [(.ref a)])) rfl rfl (hb hby dJ_9)
  refine own_go (T' := T9) (mkF m 12 #[.val (.ref a), .val (.int r4)] [(.int sz)]) st9 ?_
  refine own_go (mkF m 13 #[.val (.ref a), .val (.int r4)] [(.ref a), (.int sz)]) (fun t k => XS.aloadN X9.here hx rfl (hb hby dJ_12) rfl rfl k) ?_
  obtain ⟨T13, X13, e13, st13⟩ := getF X9 hx hZ hown (host := "") (Or.inl (hw _ (List.mem_of_getElem? (i := 10) rfl))) Via.refl e9 F_ids_a (g := (mkF m 13 #[.val (.ref a), .val (.int r4)] [(.ref a), (.int sz)])) rfl rfl (hb hby dJ_13)
  refine own_go (T' := T13) (mkF m 16 #[.val (.ref a), .val (.int r4)] [(.ref ai), (.int sz)]) st13 ?_
  refine own_alen X13 hx hZ e13 A_ai zI hzI (g := (mkF m 16 #[.val (.ref a), .val (.int r4)] [(.ref ai), (.int sz)])) rfl rfl (hb hby dJ_16) ?_
  show own_Ends p e below s ({ frames := 2, cells := 2, slots := 32, locals := 40 } : Room).cells ({ frames := 2, cells := 2, slots := 32, locals := 40 } : Room).slots (QJ Z a ai ap sz la nI nP I P zI zP h0 n0) T13 (mkF m 17 #[.val (.ref a), .val (.int r4)] [(.int zI), (.int sz)])
  by_cases c17 : sz.toInt = zI.toInt
  · skip
    refine own_go (mkF m 20 #[.val (.ref a), .val (.int r4)] []) (fun t k => XS.icmpNo X13.here hx rfl (hb hby dJ_17) rfl (own_icF (cd := .ne) (fun q => q c17)) k) ?_
    refine own_go (mkF m 21 #[.val (.ref a), .val (.int r4)] [(.ref a)]) (fun t k => XS.aloadN X13.here hx rfl (hb hby dJ_20) rfl rfl k) ?_
    refine own_go (mkF m 22 #[.val (.ref a), .val (.int r4)] [(.ref a), (.ref a)]) (fun t k => XS.aloadN X13.here hx rfl (hb hby dJ_21) rfl rfl k) ?_
    obtain ⟨T22, X22, e22, st22⟩ := getF X13 hx hZ hown (host := "") (Or.inl (hw _ (List.mem_of_getElem? (i := 10) rfl))) Via.refl e13 F_ids_a (g := (mkF m 22 #[.val (.ref a), .val (.int r4)] [(.ref a), (.ref a)])) rfl rfl (hb hby dJ_22)
    refine own_go (T' := T22) (mkF m 25 #[.val (.ref a), .val (.int r4)] [(.ref ai), (.ref a)]) st22 ?_
    refine own_go (mkF m 26 #[.val (.ref a), .val (.int r4)] [(.int (1 : Int32)), (.ref ai), (.ref a)]) (fun t k => XS.iconst X22.here hx rfl (hb hby dJ_25) k) ?_
    refine own_go (mkF m 27 #[.val (.ref a), .val (.int r4)] [(.int (2 : Int32)), (.int (1 : Int32)), (.ref ai), (.ref a)]) (fun t k => XS.iconst X22.here hx rfl (hb hby dJ_26) k) ?_
    refine own_go (mkF m 28 #[.val (.ref a), .val (.int r4)] [(.ref a), (.int (2 : Int32)), (.int (1 : Int32)), (.ref ai), (.ref a)]) (fun t k => XS.aloadN X22.here hx rfl (hb hby dJ_27) rfl rfl k) ?_
    obtain ⟨T28, X28, e28, st28⟩ := getF X22 hx hZ hown (host := "") (Or.inl (hw _ (List.mem_of_getElem? (i := 36) rfl))) Via.refl e22 F_size_a (g := (mkF m 28 #[.val (.ref a), .val (.int r4)] [(.ref a), (.int (2 : Int32)), (.int (1 : Int32)), (.ref ai), (.ref a)])) rfl rfl (hb hby dJ_28)
    refine own_go (T' := T28) (mkF m 31 #[.val (.ref a), .val (.int r4)] [(.int sz), (.int (2 : Int32)), (.int (1 : Int32)), (.ref ai), (.ref a)]) st28 ?_
    refine own_go (mkF m 32 #[.val (.ref a), .val (.int r4)] [(.int ((2 : Int32) * sz)), (.int (1 : Int32)), (.ref ai), (.ref a)]) (fun t k => XS.imul X28.here hx rfl (hb hby dJ_31) rfl k) ?_
    generalize hv31 : ((2 : Int32) * sz) = v31
    have f31 : (v31.toInt - (2 * sz.toInt)) % 4294967296 = 0 := by rw [← hv31]; exact c_imul (2 : Int32) sz
    have r31 := rng32 v31
    have lt32_0 : (1 : Int32).toInt = 1 := rfl
    refine own_callS X28 hx hZ (y := (⟨"java/lang/Math", "max", "(II)I"⟩ : MethodName)) hown (hw _ (List.mem_of_getElem? (i := 66) rfl)) (hw _ (List.mem_of_getElem? (i := 67) rfl)) (hw _ (List.mem_of_getElem? (i := 33) rfl)) (hw _ (List.mem_of_getElem? (i := 68) rfl)) (by decide) e28 (rmX l Z a0 hw [] (1 : Int32) v31 h0 n0 Z0 ) 2 (by decide) (by decide) (by decide) (by decide) (g := (mkF m 32 #[.val (.ref a), .val (.int r4)] [(.int v31), (.int (1 : Int32)), (.ref ai), (.ref a)])) rfl (by rw [hml]; rfl) [(.int (1 : Int32)), (.int v31)] [(.ref ai), (.ref a)] (lenOf pdJ_1 rfl) rfl rfl (by show 2 * 0 + _ ≤ _; exact Nat.le_of_eq rfl) (hb hby dJ_32) ?_
    intro rv32 T32 h32 L32 X32 e32 hQ32
    obtain ⟨⟨r32, rfl, hr32⟩, NQ32, eq32⟩ := hQ32
    rw [eq32] at e32
    have rr32 := rng32 r32
    have N32 := Fr.app N4 NQ32
    show own_Ends p e below s ({ frames := 2, cells := 2, slots := 32, locals := 40 } : Room).cells ({ frames := 2, cells := 2, slots := 32, locals := 40 } : Room).slots (QJ Z a ai ap sz la nI nP I P zI zP h0 n0) T32 (mkF m 35 #[.val (.ref a), .val (.int r4)] [(.int r32), (.ref ai), (.ref a)])
    refine own_callS X32 hx hZ (y := (⟨"java/util/Arrays", "copyOf", "([II)[I"⟩ : MethodName)) hown (hw _ (List.mem_of_getElem? (i := 55) rfl)) (hw _ (List.mem_of_getElem? (i := 56) rfl)) (hw _ (List.mem_of_getElem? (i := 57) rfl)) (hw _ (List.mem_of_getElem? (i := 58) rfl)) (by decide) e32 (rmC l Z a0 hw [] ai r32 nI I zI h0 n0 Z0 A_ai hzI (by omega)) 1 (by decide) (by decide) (by decide) (by decide) (g := (mkF m 35 #[.val (.ref a), .val (.int r4)] [(.int r32), (.ref ai), (.ref a)])) rfl (by rw [hml]; rfl) [(.ref ai), (.int r32)] [(.ref a)] (lenOf pdJ_2 rfl) rfl rfl (by show 2 * 0 + _ ≤ _; exact Nat.le_of_eq rfl) (hb hby dJ_35) ?_
    intro rv35 T35 h35 L35 X35 e35 hQ35
    obtain ⟨bn35, G35, rfl, NQ35, KQ35, gQ35, ge35, AQ35, cp35⟩ := hQ35
    have ne_a_bn35 : a ≠ bn35 := fun q => absurd E_a.lt (by rw [q]; exact Nat.not_lt.mpr ge35)
    have ne_ai_bn35 : ai ≠ bn35 := fun q => absurd (own_Av.lt A_ai) (by rw [q]; exact Nat.not_lt.mpr ge35)
    have ne_ap_bn35 : ap ≠ bn35 := fun q => absurd (own_Av.lt A_ap) (by rw [q]; exact Nat.not_lt.mpr ge35)
    have E_a_35 := E_a.keep KQ35
    have F_ids_a_35 := F_ids_a.keep KQ35 nin0
    have F_positions_a_35 := F_positions_a.keep KQ35 nin0
    have F_size_a_35 := F_size_a.keep KQ35 nin0
    have F_lastId_a_35 := F_lastId_a.keep KQ35 nin0
    have A_ai_35 := own_Av.keep A_ai KQ35 nin0
    have A_ap_35 := own_Av.keep A_ap KQ35 nin0
    have K0_35 := K0.trans KQ35 all0
    have Z0_35 : n0 ≤ h35.size := Nat.le_trans Z0 KQ35.1
    have in35 : bn35 ∈ [a, ai, ap] ∨ h0.size ≤ bn35 := Or.inr (Nat.le_trans K0.1 ge35)
    have N35 := Fr.app N32 NQ35
    show own_Ends p e below s ({ frames := 2, cells := 2, slots := 32, locals := 40 } : Room).cells ({ frames := 2, cells := 2, slots := 32, locals := 40 } : Room).slots (QJ Z a ai ap sz la nI nP I P zI zP h0 n0) T35 (mkF m 38 #[.val (.ref a), .val (.int r4)] [(.ref bn35), (.ref a)])
    obtain ⟨T38, h38, X38, e38, W38, st38⟩ := putF X35 hx hZ hown (host := "") (Or.inl (hw _ (List.mem_of_getElem? (i := 10) rfl))) Via.refl e35 F_ids_a_35 E_a_35 (Or.inl (hw _ (List.mem_of_getElem? (i := 11) rfl))) (hw _ (List.mem_of_getElem? (i := 1) rfl)) (ty := (.array .int)) (by decide) rfl rfl (g := (mkF m 38 #[.val (.ref a), .val (.int r4)] [(.ref bn35), (.ref a)])) rfl rfl (hb hby dJ_38)
    have N38 := Fr.snoc X38 N35 g_a
    have E_a_38 := E_a_35.wr W38
    have F_ids_a_38 := F_ids_a_35.same W38
    have F_positions_a_38 := F_positions_a_35.other W38 (Or.inr (slot_ne (Or.inl (hw _ (List.mem_of_getElem? (i := 13) rfl))) (Or.inl (hw _ (List.mem_of_getElem? (i := 11) rfl))) (by decide) (t := (.array .int)) (t' := (.array .int)) (by decide) (by decide)))
    have F_size_a_38 := F_size_a_35.other W38 (Or.inr (slot_ne (Or.inl (hw _ (List.mem_of_getElem? (i := 37) rfl))) (Or.inl (hw _ (List.mem_of_getElem? (i := 11) rfl))) (by decide) (t := .int) (t' := (.array .int)) (by decide) (by decide)))
    have F_lastId_a_38 := F_lastId_a_35.other W38 (Or.inr (slot_ne (Or.inl (hw _ (List.mem_of_getElem? (i := 20) rfl))) (Or.inl (hw _ (List.mem_of_getElem? (i := 11) rfl))) (by decide) (t := .int) (t' := (.array .int)) (by decide) (by decide)))
    have A_ai_38 := own_Av.other A_ai_35 W38 (Ne.symm ne_a_ai)
    have A_ap_38 := own_Av.other A_ap_35 W38 (Ne.symm ne_a_ap)
    have K0_38 := K0_35.wr W38 (Or.inl (by simp))
    have Z0_38 : n0 ≤ h38.size := by rw [W38.size]; exact Z0_35
    have AQ35_38 := own_Av.other AQ35 W38 (Ne.symm ne_a_bn35)
    refine own_go (T' := T38) (mkF m 41 #[.val (.ref a), .val (.int r4)] []) st38 ?_
    refine own_go (mkF m 42 #[.val (.ref a), .val (.int r4)] [(.int r4)]) (fun t k => XS.iloadN X38.here hx rfl (hb hby dJ_41) rfl k) ?_
    refine own_go (mkF m 43 #[.val (.ref a), .val (.int r4)] [(.ref a), (.int r4)]) (fun t k => XS.aloadN X38.here hx rfl (hb hby dJ_42) rfl rfl k) ?_
    obtain ⟨T43, X43, e43, st43⟩ := getF X38 hx hZ hown (host := "") (Or.inl (hw _ (List.mem_of_getElem? (i := 12) rfl))) Via.refl e38 F_positions_a_38 (g := (mkF m 43 #[.val (.ref a), .val (.int r4)] [(.ref a), (.int r4)])) rfl rfl (hb hby dJ_43)
    refine own_go (T' := T43) (mkF m 46 #[.val (.ref a), .val (.int r4)] [(.ref ap), (.int r4)]) st43 ?_
    refine own_alen X43 hx hZ e43 A_ap_38 zP hzP (g := (mkF m 46 #[.val (.ref a), .val (.int r4)] [(.ref ap), (.int r4)])) rfl rfl (hb hby dJ_46) ?_
    show own_Ends p e below s ({ frames := 2, cells := 2, slots := 32, locals := 40 } : Room).cells ({ frames := 2, cells := 2, slots := 32, locals := 40 } : Room).slots (QJ Z a ai ap sz la nI nP I P zI zP h0 n0) T43 (mkF m 47 #[.val (.ref a), .val (.int r4)] [(.int zP), (.int r4)])
    by_cases c47 : r4.toInt = zP.toInt
    · skip
      refine own_go (mkF m 50 #[.val (.ref a), .val (.int r4)] []) (fun t k => XS.icmpNo X43.here hx rfl (hb hby dJ_47) rfl (own_icF (cd := .ne) (fun q => q c47)) k) ?_
      refine own_go (mkF m 51 #[.val (.ref a), .val (.int r4)] [(.ref a)]) (fun t k => XS.aloadN X43.here hx rfl (hb hby dJ_50) rfl rfl k) ?_
      refine own_go (mkF m 52 #[.val (.ref a), .val (.int r4)] [(.ref a), (.ref a)]) (fun t k => XS.aloadN X43.here hx rfl (hb hby dJ_51) rfl rfl k) ?_
      obtain ⟨T52, X52, e52, st52⟩ := getF X43 hx hZ hown (host := "") (Or.inl (hw _ (List.mem_of_getElem? (i := 12) rfl))) Via.refl e43 F_positions_a_38 (g := (mkF m 52 #[.val (.ref a), .val (.int r4)] [(.ref a), (.ref a)])) rfl rfl (hb hby dJ_52)
      refine own_go (T' := T52) (mkF m 55 #[.val (.ref a), .val (.int r4)] [(.ref ap), (.ref a)]) st52 ?_
      refine own_go (mkF m 56 #[.val (.ref a), .val (.int r4)] [(.int (2 : Int32)), (.ref ap), (.ref a)]) (fun t k => XS.iconst X52.here hx rfl (hb hby dJ_55) k) ?_
      refine own_go (mkF m 57 #[.val (.ref a), .val (.int r4)] [(.int r4), (.int (2 : Int32)), (.ref ap), (.ref a)]) (fun t k => XS.iloadN X52.here hx rfl (hb hby dJ_56) rfl k) ?_
      refine own_go (mkF m 58 #[.val (.ref a), .val (.int r4)] [(.int ((2 : Int32) * r4)), (.ref ap), (.ref a)]) (fun t k => XS.imul X52.here hx rfl (hb hby dJ_57) rfl k) ?_
      generalize hv57 : ((2 : Int32) * r4) = v57
      have f57 : (v57.toInt - (2 * r4.toInt)) % 4294967296 = 0 := by rw [← hv57]; exact c_imul (2 : Int32) r4
      have r57 := rng32 v57
      refine own_callS X52 hx hZ (y := (⟨"java/util/Arrays", "copyOf", "([II)[I"⟩ : MethodName)) hown (hw _ (List.mem_of_getElem? (i := 55) rfl)) (hw _ (List.mem_of_getElem? (i := 56) rfl)) (hw _ (List.mem_of_getElem? (i := 57) rfl)) (hw _ (List.mem_of_getElem? (i := 58) rfl)) (by decide) e52 (rmC l Z a0 hw [] ap v57 nP P zP h38 n0 Z0_38 A_ap_38 hzP (by omega)) 1 (by decide) (by decide) (by decide) (by decide) (g := (mkF m 58 #[.val (.ref a), .val (.int r4)] [(.int v57), (.ref ap), (.ref a)])) rfl (by rw [hml]; rfl) [(.ref ap), (.int v57)] [(.ref a)] (lenOf pdJ_2 rfl) rfl rfl (by show 2 * 0 + _ ≤ _; exact Nat.le_of_eq rfl) (hb hby dJ_58) ?_
      intro rv58 T58 h58 L58 X58 e58 hQ58
      obtain ⟨bn58, G58, rfl, NQ58, KQ58, gQ58, ge58, AQ58, cp58⟩ := hQ58
      have ne_a_bn58 : a ≠ bn58 := fun q => absurd E_a_38.lt (by rw [q]; exact Nat.not_lt.mpr ge58)
      have ne_ai_bn58 : ai ≠ bn58 := fun q => absurd (own_Av.lt A_ai_38) (by rw [q]; exact Nat.not_lt.mpr ge58)
      have ne_ap_bn58 : ap ≠ bn58 := fun q => absurd (own_Av.lt A_ap_38) (by rw [q]; exact Nat.not_lt.mpr ge58)
      have ne_bn35_bn58 : bn35 ≠ bn58 := fun q => absurd (own_Av.lt AQ35_38) (by rw [q]; exact Nat.not_lt.mpr ge58)
      have E_a_58 := E_a_38.keep KQ58
      have F_ids_a_58 := F_ids_a_38.keep KQ58 nin0
      have F_positions_a_58 := F_positions_a_38.keep KQ58 nin0
      have F_size_a_58 := F_size_a_38.keep KQ58 nin0
      have F_lastId_a_58 := F_lastId_a_38.keep KQ58 nin0
      have A_ai_58 := own_Av.keep A_ai_38 KQ58 nin0
      have A_ap_58 := own_Av.keep A_ap_38 KQ58 nin0
      have K0_58 := K0_38.trans KQ58 all0
      have Z0_58 : n0 ≤ h58.size := Nat.le_trans Z0_38 KQ58.1
      have AQ35_58 := own_Av.keep AQ35_38 KQ58 nin0
      have in58 : bn58 ∈ [a, ai, ap] ∨ h0.size ≤ bn58 := Or.inr (Nat.le_trans K0_38.1 ge58)
      have N58 := Fr.app N38 NQ58
      show own_Ends p e below s ({ frames := 2, cells := 2, slots := 32, locals := 40 } : Room).cells ({ frames := 2, cells := 2, slots := 32, locals := 40 } : Room).slots (QJ Z a ai ap sz la nI nP I P zI zP h0 n0) T58 (mkF m 61 #[.val (.ref a), .val (.int r4)] [(.ref bn58), (.ref a)])
      obtain ⟨T61, h61, X61, e61, W61, st61⟩ := putF X58 hx hZ hown (host := "") (Or.inl (hw _ (List.mem_of_getElem? (i := 12) rfl))) Via.refl e58 F_positions_a_58 E_a_58 (Or.inl (hw _ (List.mem_of_getElem? (i := 13) rfl))) (hw _ (List.mem_of_getElem? (i := 1) rfl)) (ty := (.array .int)) (by decide) rfl rfl (g := (mkF m 61 #[.val (.ref a), .val (.int r4)] [(.ref bn58), (.ref a)])) rfl rfl (hb hby dJ_61)
      have N61 := Fr.snoc X61 N58 g_a
      have E_a_61 := E_a_58.wr W61
      have F_ids_a_61 := F_ids_a_58.other W61 (Or.inr (slot_ne (Or.inl (hw _ (List.mem_of_getElem? (i := 11) rfl))) (Or.inl (hw _ (List.mem_of_getElem? (i := 13) rfl))) (by decide) (t := (.array .int)) (t' := (.array .int)) (by decide) (by decide)))
      have F_positions_a_61 := F_positions_a_58.same W61
      have F_size_a_61 := F_size_a_58.other W61 (Or.inr (slot_ne (Or.inl (hw _ (List.mem_of_getElem? (i := 37) rfl))) (Or.inl (hw _ (List.mem_of_getElem? (i := 13) rfl))) (by decide) (t := .int) (t' := (.array .int)) (by decide) (by decide)))
      have F_lastId_a_61 := F_lastId_a_58.other W61 (Or.inr (slot_ne (Or.inl (hw _ (List.mem_of_getElem? (i := 20) rfl))) (Or.inl (hw _ (List.mem_of_getElem? (i := 13) rfl))) (by decide) (t := .int) (t' := (.array .int)) (by decide) (by decide)))
      have A_ai_61 := own_Av.other A_ai_58 W61 (Ne.symm ne_a_ai)
      have A_ap_61 := own_Av.other A_ap_58 W61 (Ne.symm ne_a_ap)
      have K0_61 := K0_58.wr W61 (Or.inl (by simp))
      have Z0_61 : n0 ≤ h61.size := by rw [W61.size]; exact Z0_58
      have AQ35_61 := own_Av.other AQ35_58 W61 (Ne.symm ne_a_bn35)
      have AQ58_61 := own_Av.other AQ58 W61 (Ne.symm ne_a_bn58)
      refine own_go (T' := T61) (mkF m 64 #[.val (.ref a), .val (.int r4)] []) st61 ?_
      refine own_go (mkF m 65 #[.val (.ref a), .val (.int r4)] [(.ref a)]) (fun t k => XS.aloadN X61.here hx rfl (hb hby dJ_64) rfl rfl k) ?_
      obtain ⟨T65, X65, e65, st65⟩ := getF X61 hx hZ hown (host := "") (Or.inl (hw _ (List.mem_of_getElem? (i := 10) rfl))) Via.refl e61 F_ids_a_61 (g := (mkF m 65 #[.val (.ref a), .val (.int r4)] [(.ref a)])) rfl rfl (hb hby dJ_65)
      refine own_go (T' := T65) (mkF m 68 #[.val (.ref a), .val (.int r4)] [(.ref bn35)]) st65 ?_
      refine own_go (mkF m 69 #[.val (.ref a), .val (.int r4)] [(.ref a), (.ref bn35)]) (fun t k => XS.aloadN X65.here hx rfl (hb hby dJ_68) rfl rfl k) ?_
      obtain ⟨T69, X69, e69, st69⟩ := getF X65 hx hZ hown (host := "") (Or.inl (hw _ (List.mem_of_getElem? (i := 36) rfl))) Via.refl e65 F_size_a_61 (g := (mkF m 69 #[.val (.ref a), .val (.int r4)] [(.ref a), (.ref bn35)])) rfl rfl (hb hby dJ_69)
      refine own_go (T' := T69) (mkF m 72 #[.val (.ref a), .val (.int r4)] [(.int sz), (.ref bn35)]) st69 ?_
      refine own_go (mkF m 73 #[.val (.ref a), .val (.int r4)] [(.int r4), (.int sz), (.ref bn35)]) (fun t k => XS.iloadN X69.here hx rfl (hb hby dJ_72) rfl k) ?_
      refine own_iastore X69 hx hZ e69 AQ35_61 (j := sz) (x := r4) (by omega) (by omega) (g := (mkF m 73 #[.val (.ref a), .val (.int r4)] [(.int r4), (.int sz), (.ref bn35)])) rfl rfl (hb hby dJ_73) ?_
      intro T73 h73 F73 X73 e73 W73 hF73 A73
      have N73 := Fr.snoc X73 N61 gQ35
      have E_a_73 := E_a_61.wr W73
      have F_ids_a_73 := F_ids_a_61.other W73 (Or.inl ne_a_bn35)
      have F_positions_a_73 := F_positions_a_61.other W73 (Or.inl ne_a_bn35)
      have F_size_a_73 := F_size_a_61.other W73 (Or.inl ne_a_bn35)
      have F_lastId_a_73 := F_lastId_a_61.other W73 (Or.inl ne_a_bn35)
      have A_ai_73 := own_Av.other A_ai_61 W73 ne_ai_bn35
      have A_ap_73 := own_Av.other A_ap_61 W73 ne_ap_bn35
      have K0_73 := K0_61.wr W73 in35
      have Z0_73 : n0 ≤ h73.size := by rw [W73.size]; exact Z0_61
      have AQ58_73 := own_Av.other AQ58_61 W73 (Ne.symm ne_bn35_bn58)
      show own_Ends p e below s ({ frames := 2, cells := 2, slots := 32, locals := 40 } : Room).cells ({ frames := 2, cells := 2, slots := 32, locals := 40 } : Room).slots (QJ Z a ai ap sz la nI nP I P zI zP h0 n0) T73 (mkF m 74 #[.val (.ref a), .val (.int r4)] [])
      refine own_go (mkF m 75 #[.val (.ref a), .val (.int r4)] [(.ref a)]) (fun t k => XS.aloadN X73.here hx rfl (hb hby dJ_74) rfl rfl k) ?_
      obtain ⟨T75, X75, e75, st75⟩ := getF X73 hx hZ hown (host := "") (Or.inl (hw _ (List.mem_of_getElem? (i := 12) rfl))) Via.refl e73 F_positions_a_73 (g := (mkF m 75 #[.val (.ref a), .val (.int r4)] [(.ref a)])) rfl rfl (hb hby dJ_75)
      refine own_go (T' := T75) (mkF m 78 #[.val (.ref a), .val (.int r4)] [(.ref bn58)]) st75 ?_
      refine own_go (mkF m 79 #[.val (.ref a), .val (.int r4)] [(.int r4), (.ref bn58)]) (fun t k => XS.iloadN X75.here hx rfl (hb hby dJ_78) rfl k) ?_
      refine own_go (mkF m 80 #[.val (.ref a), .val (.int r4)] [(.ref a), (.int r4), (.ref bn58)]) (fun t k => XS.aloadN X75.here hx rfl (hb hby dJ_79) rfl rfl k) ?_
      obtain ⟨T80, X80, e80, st80⟩ := getF X75 hx hZ hown (host := "") (Or.inl (hw _ (List.mem_of_getElem? (i := 36) rfl))) Via.refl e75 F_size_a_73 (g := (mkF m 80 #[.val (.ref a), .val (.int r4)] [(.ref a), (.int r4), (.ref bn58)])) rfl rfl (hb hby dJ_80)
      refine own_go (T' := T80) (mkF m 83 #[.val (.ref a), .val (.int r4)] [(.int sz), (.int r4), (.ref bn58)]) st80 ?_
      refine own_iastore X80 hx hZ e80 AQ58_73 (j := r4) (x := sz) (by omega) (by omega) (g := (mkF m 83 #[.val (.ref a), .val (.int r4)] [(.int sz), (.int r4), (.ref bn58)])) rfl rfl (hb hby dJ_83) ?_
      intro T83 h83 F83 X83 e83 W83 hF83 A83
      have N83 := Fr.snoc X83 N73 gQ58
      have E_a_83 := E_a_73.wr W83
      have F_ids_a_83 := F_ids_a_73.other W83 (Or.inl ne_a_bn58)
      have F_positions_a_83 := F_positions_a_73.other W83 (Or.inl ne_a_bn58)
      have F_size_a_83 := F_size_a_73.other W83 (Or.inl ne_a_bn58)
      have F_lastId_a_83 := F_lastId_a_73.other W83 (Or.inl ne_a_bn58)
      have A_ai_83 := own_Av.other A_ai_73 W83 ne_ai_bn58
      have A_ap_83 := own_Av.other A_ap_73 W83 ne_ap_bn58
      have K0_83 := K0_73.wr W83 in58
      have Z0_83 : n0 ≤ h83.size := by rw [W83.size]; exact Z0_73
      have A73_83 := own_Av.other A73 W83 ne_bn35_bn58
      show own_Ends p e below s ({ frames := 2, cells := 2, slots := 32, locals := 40 } : Room).cells ({ frames := 2, cells := 2, slots := 32, locals := 40 } : Room).slots (QJ Z a ai ap sz la nI nP I P zI zP h0 n0) T83 (mkF m 84 #[.val (.ref a), .val (.int r4)] [])
      refine own_go (mkF m 85 #[.val (.ref a), .val (.int r4)] [(.ref a)]) (fun t k => XS.aloadN X83.here hx rfl (hb hby dJ_84) rfl rfl k) ?_
      refine own_go (mkF m 86 #[.val (.ref a), .val (.int r4)] [(.ref a), (.ref a)]) (fun t k => XS.dup X83.here hx rfl (hb hby dJ_85) rfl rfl k) ?_
      obtain ⟨T86, X86, e86, st86⟩ := getF X83 hx hZ hown (host := "") (Or.inl (hw _ (List.mem_of_getElem? (i := 36) rfl))) Via.refl e83 F_size_a_83 (g := (mkF m 86 #[.val (.ref a), .val (.int r4)] [(.ref a), (.ref a)])) rfl rfl (hb hby dJ_86)
      refine own_go (T' := T86) (mkF m 89 #[.val (.ref a), .val (.int r4)] [(.int sz), (.ref a)]) st86 ?_
      refine own_go (mkF m 90 #[.val (.ref a), .val (.int r4)] [(.int (1 : Int32)), (.int sz), (.ref a)]) (fun t k => XS.iconst X86.here hx rfl (hb hby dJ_89) k) ?_
      refine own_go (mkF m 91 #[.val (.ref a), .val (.int r4)] [(.int (sz + (1 : Int32))), (.ref a)]) (fun t k => XS.iadd X86.here hx rfl (hb hby dJ_90) rfl k) ?_
      generalize hv90 : (sz + (1 : Int32)) = v90
      have f90 : (v90.toInt - (sz.toInt + 1)) % 4294967296 = 0 := by rw [← hv90]; exact c_iadd sz (1 : Int32)
      have r90 := rng32 v90
      obtain ⟨T91, h91, X91, e91, W91, st91⟩ := putF X86 hx hZ hown (host := "") (Or.inl (hw _ (List.mem_of_getElem? (i := 36) rfl))) Via.refl e86 F_size_a_83 E_a_83 (Or.inl (hw _ (List.mem_of_getElem? (i := 37) rfl))) (hw _ (List.mem_of_getElem? (i := 1) rfl)) (ty := .int) (by decide) rfl rfl (g := (mkF m 91 #[.val (.ref a), .val (.int r4)] [(.int v90), (.ref a)])) rfl rfl (hb hby dJ_91)
      have N91 := Fr.snoc X91 N83 g_a
      have E_a_91 := E_a_83.wr W91
      have F_ids_a_91 := F_ids_a_83.other W91 (Or.inr (slot_ne (Or.inl (hw _ (List.mem_of_getElem? (i := 11) rfl))) (Or.inl (hw _ (List.mem_of_getElem? (i := 37) rfl))) (by decide) (t := (.array .int)) (t' := .int) (by decide) (by decide)))
      have F_positions_a_91 := F_positions_a_83.other W91 (Or.inr (slot_ne (Or.inl (hw _ (List.mem_of_getElem? (i := 13) rfl))) (Or.inl (hw _ (List.mem_of_getElem? (i := 37) rfl))) (by decide) (t := (.array .int)) (t' := .int) (by decide) (by decide)))
      have F_size_a_91 := F_size_a_83.same W91
      have F_lastId_a_91 := F_lastId_a_83.other W91 (Or.inr (slot_ne (Or.inl (hw _ (List.mem_of_getElem? (i := 20) rfl))) (Or.inl (hw _ (List.mem_of_getElem? (i := 37) rfl))) (by decide) (t := .int) (t' := .int) (by decide) (by decide)))
      have A_ai_91 := own_Av.other A_ai_83 W91 (Ne.symm ne_a_ai)
      have A_ap_91 := own_Av.other A_ap_83 W91 (Ne.symm ne_a_ap)
      have K0_91 := K0_83.wr W91 (Or.inl (by simp))
      have Z0_91 : n0 ≤ h91.size := by rw [W91.size]; exact Z0_83
      have A73_91 := own_Av.other A73_83 W91 (Ne.symm ne_a_bn35)
      have A83_91 := own_Av.other A83 W91 (Ne.symm ne_a_bn58)
      refine own_go (T' := T91) (mkF m 94 #[.val (.ref a), .val (.int r4)] []) st91 ?_
      refine own_go (mkF m 95 #[.val (.ref a), .val (.int r4)] [(.ref a)]) (fun t k => XS.aloadN X91.here hx rfl (hb hby dJ_94) rfl rfl k) ?_
      refine own_go (mkF m 96 #[.val (.ref a), .val (.int r4)] [(.int r4), (.ref a)]) (fun t k => XS.iloadN X91.here hx rfl (hb hby dJ_95) rfl k) ?_
      obtain ⟨T96, h96, X96, e96, W96, st96⟩ := putF X91 hx hZ hown (host := "") (Or.inl (hw _ (List.mem_of_getElem? (i := 19) rfl))) Via.refl e91 F_lastId_a_91 E_a_91 (Or.inl (hw _ (List.mem_of_getElem? (i := 20) rfl))) (hw _ (List.mem_of_getElem? (i := 1) rfl)) (ty := .int) (by decide) rfl rfl (g := (mkF m 96 #[.val (.ref a), .val (.int r4)] [(.int r4), (.ref a)])) rfl rfl (hb hby dJ_96)
      have N96 := Fr.snoc X96 N91 g_a
      have E_a_96 := E_a_91.wr W96
      have F_ids_a_96 := F_ids_a_91.other W96 (Or.inr (slot_ne (Or.inl (hw _ (List.mem_of_getElem? (i := 11) rfl))) (Or.inl (hw _ (List.mem_of_getElem? (i := 20) rfl))) (by decide) (t := (.array .int)) (t' := .int) (by decide) (by decide)))
      have F_positions_a_96 := F_positions_a_91.other W96 (Or.inr (slot_ne (Or.inl (hw _ (List.mem_of_getElem? (i := 13) rfl))) (Or.inl (hw _ (List.mem_of_getElem? (i := 20) rfl))) (by decide) (t := (.array .int)) (t' := .int) (by decide) (by decide)))
      have F_size_a_96 := F_size_a_91.other W96 (Or.inr (slot_ne (Or.inl (hw _ (List.mem_of_getElem? (i := 37) rfl))) (Or.inl (hw _ (List.mem_of_getElem? (i := 20) rfl))) (by decide) (t := .int) (t' := .int) (by decide) (by decide)))
      have F_lastId_a_96 := F_lastId_a_91.same W96
      have A_ai_96 := own_Av.other A_ai_91 W96 (Ne.symm ne_a_ai)
      have A_ap_96 := own_Av.other A_ap_91 W96 (Ne.symm ne_a_ap)
      have K0_96 := K0_91.wr W96 (Or.inl (by simp))
      have Z0_96 : n0 ≤ h96.size := by rw [W96.size]; exact Z0_91
      have A73_96 := own_Av.other A73_91 W96 (Ne.symm ne_a_bn35)
      have A83_96 := own_Av.other A83_91 W96 (Ne.symm ne_a_bn58)
      refine own_go (T' := T96) (mkF m 99 #[.val (.ref a), .val (.int r4)] []) st96 ?_
      refine own_go (mkF m 100 #[.val (.ref a), .val (.int r4)] [(.int r4)]) (fun t k => XS.iloadN X96.here hx rfl (hb hby dJ_99) rfl k) ?_
      refine own_retI X96 hx hlk hret (by simp) rfl (hb hby dJ_100) (by decide) (by decide) ?_
      rw [e96]
      have hJ : ∀ i : Int, 0 ≤ i → i < sz.toInt → own_G G35 i = own_G I i := fun i q1 q2 => own_G_eq (n := nI) (fun j hj => cp35 j hj (by omega)) q1 (by omega)
      have hO : ∀ i : Int, 1 ≤ i → i ≤ la.toInt → own_G G58 i = own_G P i := fun i q1 q2 => own_G_eq (n := nP) (fun j hj => cp58 j hj (by omega)) (by omega) (by omega)
      have hj : own_jn sz.toInt la.toInt I P F73 F83 := own_jn_of (by omega) (by omega) hJ hO hF73 (by rw [hF83, hr4]) hr4 rfl
      exact ⟨⟨_, rfl, trivial⟩, N96, K0_96, bn35, bn58, _, _, r32.toInt.toNat, v57.toInt.toNat, F73, F83, E_a_96, F_ids_a_96, F_positions_a_96, F_size_a_96, F_lastId_a_96, A73_96, A83_96, gQ35, gQ58, ne_a_bn35, ne_a_bn58, ne_bn35_bn58, by omega, by omega, by omega, by omega, hj⟩
    · skip
      refine own_go (mkF m 64 #[.val (.ref a), .val (.int r4)] []) (fun t k => XS.icmpYes X43.here hx rfl (pc0 := 47) (pc' := 64) rfl (hb hby dJ_47) rfl (own_icT (cd := .ne) c47) (by decide) (by decide) k) ?_
      refine own_go (mkF m 65 #[.val (.ref a), .val (.int r4)] [(.ref a)]) (fun t k => XS.aloadN X43.here hx rfl (hb hby dJ_64) rfl rfl k) ?_
      obtain ⟨T65, X65, e65, st65⟩ := getF X43 hx hZ hown (host := "") (Or.inl (hw _ (List.mem_of_getElem? (i := 10) rfl))) Via.refl e43 F_ids_a_38 (g := (mkF m 65 #[.val (.ref a), .val (.int r4)] [(.ref a)])) rfl rfl (hb hby dJ_65)
      refine own_go (T' := T65) (mkF m 68 #[.val (.ref a), .val (.int r4)] [(.ref bn35)]) st65 ?_
      refine own_go (mkF m 69 #[.val (.ref a), .val (.int r4)] [(.ref a), (.ref bn35)]) (fun t k => XS.aloadN X65.here hx rfl (hb hby dJ_68) rfl rfl k) ?_
      obtain ⟨T69, X69, e69, st69⟩ := getF X65 hx hZ hown (host := "") (Or.inl (hw _ (List.mem_of_getElem? (i := 36) rfl))) Via.refl e65 F_size_a_38 (g := (mkF m 69 #[.val (.ref a), .val (.int r4)] [(.ref a), (.ref bn35)])) rfl rfl (hb hby dJ_69)
      refine own_go (T' := T69) (mkF m 72 #[.val (.ref a), .val (.int r4)] [(.int sz), (.ref bn35)]) st69 ?_
      refine own_go (mkF m 73 #[.val (.ref a), .val (.int r4)] [(.int r4), (.int sz), (.ref bn35)]) (fun t k => XS.iloadN X69.here hx rfl (hb hby dJ_72) rfl k) ?_
      refine own_iastore X69 hx hZ e69 AQ35_38 (j := sz) (x := r4) (by omega) (by omega) (g := (mkF m 73 #[.val (.ref a), .val (.int r4)] [(.int r4), (.int sz), (.ref bn35)])) rfl rfl (hb hby dJ_73) ?_
      intro T73 h73 F73 X73 e73 W73 hF73 A73
      have N73 := Fr.snoc X73 N38 gQ35
      have E_a_73 := E_a_38.wr W73
      have F_ids_a_73 := F_ids_a_38.other W73 (Or.inl ne_a_bn35)
      have F_positions_a_73 := F_positions_a_38.other W73 (Or.inl ne_a_bn35)
      have F_size_a_73 := F_size_a_38.other W73 (Or.inl ne_a_bn35)
      have F_lastId_a_73 := F_lastId_a_38.other W73 (Or.inl ne_a_bn35)
      have A_ai_73 := own_Av.other A_ai_38 W73 ne_ai_bn35
      have A_ap_73 := own_Av.other A_ap_38 W73 ne_ap_bn35
      have K0_73 := K0_38.wr W73 in35
      have Z0_73 : n0 ≤ h73.size := by rw [W73.size]; exact Z0_38
      show own_Ends p e below s ({ frames := 2, cells := 2, slots := 32, locals := 40 } : Room).cells ({ frames := 2, cells := 2, slots := 32, locals := 40 } : Room).slots (QJ Z a ai ap sz la nI nP I P zI zP h0 n0) T73 (mkF m 74 #[.val (.ref a), .val (.int r4)] [])
      refine own_go (mkF m 75 #[.val (.ref a), .val (.int r4)] [(.ref a)]) (fun t k => XS.aloadN X73.here hx rfl (hb hby dJ_74) rfl rfl k) ?_
      obtain ⟨T75, X75, e75, st75⟩ := getF X73 hx hZ hown (host := "") (Or.inl (hw _ (List.mem_of_getElem? (i := 12) rfl))) Via.refl e73 F_positions_a_73 (g := (mkF m 75 #[.val (.ref a), .val (.int r4)] [(.ref a)])) rfl rfl (hb hby dJ_75)
      refine own_go (T' := T75) (mkF m 78 #[.val (.ref a), .val (.int r4)] [(.ref ap)]) st75 ?_
      refine own_go (mkF m 79 #[.val (.ref a), .val (.int r4)] [(.int r4), (.ref ap)]) (fun t k => XS.iloadN X75.here hx rfl (hb hby dJ_78) rfl k) ?_
      refine own_go (mkF m 80 #[.val (.ref a), .val (.int r4)] [(.ref a), (.int r4), (.ref ap)]) (fun t k => XS.aloadN X75.here hx rfl (hb hby dJ_79) rfl rfl k) ?_
      obtain ⟨T80, X80, e80, st80⟩ := getF X75 hx hZ hown (host := "") (Or.inl (hw _ (List.mem_of_getElem? (i := 36) rfl))) Via.refl e75 F_size_a_73 (g := (mkF m 80 #[.val (.ref a), .val (.int r4)] [(.ref a), (.int r4), (.ref ap)])) rfl rfl (hb hby dJ_80)
      refine own_go (T' := T80) (mkF m 83 #[.val (.ref a), .val (.int r4)] [(.int sz), (.int r4), (.ref ap)]) st80 ?_
      refine own_iastore X80 hx hZ e80 A_ap_73 (j := r4) (x := sz) (by omega) (by omega) (g := (mkF m 83 #[.val (.ref a), .val (.int r4)] [(.int sz), (.int r4), (.ref ap)])) rfl rfl (hb hby dJ_83) ?_
      intro T83 h83 F83 X83 e83 W83 hF83 A83
      have N83 := Fr.snoc X83 N73 g_ap
      have E_a_83 := E_a_73.wr W83
      have F_ids_a_83 := F_ids_a_73.other W83 (Or.inl ne_a_ap)
      have F_positions_a_83 := F_positions_a_73.other W83 (Or.inl ne_a_ap)
      have F_size_a_83 := F_size_a_73.other W83 (Or.inl ne_a_ap)
      have F_lastId_a_83 := F_lastId_a_73.other W83 (Or.inl ne_a_ap)
      have A_ai_83 := own_Av.other A_ai_73 W83 ne_ai_ap
      have K0_83 := K0_73.wr W83 (Or.inl (by simp))
      have Z0_83 : n0 ≤ h83.size := by rw [W83.size]; exact Z0_73
      have A73_83 := own_Av.other A73 W83 (Ne.symm ne_ap_bn35)
      show own_Ends p e below s ({ frames := 2, cells := 2, slots := 32, locals := 40 } : Room).cells ({ frames := 2, cells := 2, slots := 32, locals := 40 } : Room).slots (QJ Z a ai ap sz la nI nP I P zI zP h0 n0) T83 (mkF m 84 #[.val (.ref a), .val (.int r4)] [])
      refine own_go (mkF m 85 #[.val (.ref a), .val (.int r4)] [(.ref a)]) (fun t k => XS.aloadN X83.here hx rfl (hb hby dJ_84) rfl rfl k) ?_
      refine own_go (mkF m 86 #[.val (.ref a), .val (.int r4)] [(.ref a), (.ref a)]) (fun t k => XS.dup X83.here hx rfl (hb hby dJ_85) rfl rfl k) ?_
      obtain ⟨T86, X86, e86, st86⟩ := getF X83 hx hZ hown (host := "") (Or.inl (hw _ (List.mem_of_getElem? (i := 36) rfl))) Via.refl e83 F_size_a_83 (g := (mkF m 86 #[.val (.ref a), .val (.int r4)] [(.ref a), (.ref a)])) rfl rfl (hb hby dJ_86)
      refine own_go (T' := T86) (mkF m 89 #[.val (.ref a), .val (.int r4)] [(.int sz), (.ref a)]) st86 ?_
      refine own_go (mkF m 90 #[.val (.ref a), .val (.int r4)] [(.int (1 : Int32)), (.int sz), (.ref a)]) (fun t k => XS.iconst X86.here hx rfl (hb hby dJ_89) k) ?_
      refine own_go (mkF m 91 #[.val (.ref a), .val (.int r4)] [(.int (sz + (1 : Int32))), (.ref a)]) (fun t k => XS.iadd X86.here hx rfl (hb hby dJ_90) rfl k) ?_
      generalize hv90 : (sz + (1 : Int32)) = v90
      have f90 : (v90.toInt - (sz.toInt + 1)) % 4294967296 = 0 := by rw [← hv90]; exact c_iadd sz (1 : Int32)
      have r90 := rng32 v90
      obtain ⟨T91, h91, X91, e91, W91, st91⟩ := putF X86 hx hZ hown (host := "") (Or.inl (hw _ (List.mem_of_getElem? (i := 36) rfl))) Via.refl e86 F_size_a_83 E_a_83 (Or.inl (hw _ (List.mem_of_getElem? (i := 37) rfl))) (hw _ (List.mem_of_getElem? (i := 1) rfl)) (ty := .int) (by decide) rfl rfl (g := (mkF m 91 #[.val (.ref a), .val (.int r4)] [(.int v90), (.ref a)])) rfl rfl (hb hby dJ_91)
      have N91 := Fr.snoc X91 N83 g_a
      have E_a_91 := E_a_83.wr W91
      have F_ids_a_91 := F_ids_a_83.other W91 (Or.inr (slot_ne (Or.inl (hw _ (List.mem_of_getElem? (i := 11) rfl))) (Or.inl (hw _ (List.mem_of_getElem? (i := 37) rfl))) (by decide) (t := (.array .int)) (t' := .int) (by decide) (by decide)))
      have F_positions_a_91 := F_positions_a_83.other W91 (Or.inr (slot_ne (Or.inl (hw _ (List.mem_of_getElem? (i := 13) rfl))) (Or.inl (hw _ (List.mem_of_getElem? (i := 37) rfl))) (by decide) (t := (.array .int)) (t' := .int) (by decide) (by decide)))
      have F_size_a_91 := F_size_a_83.same W91
      have F_lastId_a_91 := F_lastId_a_83.other W91 (Or.inr (slot_ne (Or.inl (hw _ (List.mem_of_getElem? (i := 20) rfl))) (Or.inl (hw _ (List.mem_of_getElem? (i := 37) rfl))) (by decide) (t := .int) (t' := .int) (by decide) (by decide)))
      have A_ai_91 := own_Av.other A_ai_83 W91 (Ne.symm ne_a_ai)
      have K0_91 := K0_83.wr W91 (Or.inl (by simp))
      have Z0_91 : n0 ≤ h91.size := by rw [W91.size]; exact Z0_83
      have A73_91 := own_Av.other A73_83 W91 (Ne.symm ne_a_bn35)
      have A83_91 := own_Av.other A83 W91 (Ne.symm ne_a_ap)
      refine own_go (T' := T91) (mkF m 94 #[.val (.ref a), .val (.int r4)] []) st91 ?_
      refine own_go (mkF m 95 #[.val (.ref a), .val (.int r4)] [(.ref a)]) (fun t k => XS.aloadN X91.here hx rfl (hb hby dJ_94) rfl rfl k) ?_
      refine own_go (mkF m 96 #[.val (.ref a), .val (.int r4)] [(.int r4), (.ref a)]) (fun t k => XS.iloadN X91.here hx rfl (hb hby dJ_95) rfl k) ?_
      obtain ⟨T96, h96, X96, e96, W96, st96⟩ := putF X91 hx hZ hown (host := "") (Or.inl (hw _ (List.mem_of_getElem? (i := 19) rfl))) Via.refl e91 F_lastId_a_91 E_a_91 (Or.inl (hw _ (List.mem_of_getElem? (i := 20) rfl))) (hw _ (List.mem_of_getElem? (i := 1) rfl)) (ty := .int) (by decide) rfl rfl (g := (mkF m 96 #[.val (.ref a), .val (.int r4)] [(.int r4), (.ref a)])) rfl rfl (hb hby dJ_96)
      have N96 := Fr.snoc X96 N91 g_a
      have E_a_96 := E_a_91.wr W96
      have F_ids_a_96 := F_ids_a_91.other W96 (Or.inr (slot_ne (Or.inl (hw _ (List.mem_of_getElem? (i := 11) rfl))) (Or.inl (hw _ (List.mem_of_getElem? (i := 20) rfl))) (by decide) (t := (.array .int)) (t' := .int) (by decide) (by decide)))
      have F_positions_a_96 := F_positions_a_91.other W96 (Or.inr (slot_ne (Or.inl (hw _ (List.mem_of_getElem? (i := 13) rfl))) (Or.inl (hw _ (List.mem_of_getElem? (i := 20) rfl))) (by decide) (t := (.array .int)) (t' := .int) (by decide) (by decide)))
      have F_size_a_96 := F_size_a_91.other W96 (Or.inr (slot_ne (Or.inl (hw _ (List.mem_of_getElem? (i := 37) rfl))) (Or.inl (hw _ (List.mem_of_getElem? (i := 20) rfl))) (by decide) (t := .int) (t' := .int) (by decide) (by decide)))
      have F_lastId_a_96 := F_lastId_a_91.same W96
      have A_ai_96 := own_Av.other A_ai_91 W96 (Ne.symm ne_a_ai)
      have K0_96 := K0_91.wr W96 (Or.inl (by simp))
      have Z0_96 : n0 ≤ h96.size := by rw [W96.size]; exact Z0_91
      have A73_96 := own_Av.other A73_91 W96 (Ne.symm ne_a_bn35)
      have A83_96 := own_Av.other A83_91 W96 (Ne.symm ne_a_ap)
      refine own_go (T' := T96) (mkF m 99 #[.val (.ref a), .val (.int r4)] []) st96 ?_
      refine own_go (mkF m 100 #[.val (.ref a), .val (.int r4)] [(.int r4)]) (fun t k => XS.iloadN X96.here hx rfl (hb hby dJ_99) rfl k) ?_
      refine own_retI X96 hx hlk hret (by simp) rfl (hb hby dJ_100) (by decide) (by decide) ?_
      rw [e96]
      have hJ : ∀ i : Int, 0 ≤ i → i < sz.toInt → own_G G35 i = own_G I i := fun i q1 q2 => own_G_eq (n := nI) (fun j hj => cp35 j hj (by omega)) q1 (by omega)
      have hO : ∀ i : Int, 1 ≤ i → i ≤ la.toInt → own_G P i = own_G P i := fun i _ _ => rfl
      have hj : own_jn sz.toInt la.toInt I P F73 F83 := own_jn_of (by omega) (by omega) hJ hO hF73 (by rw [hF83, hr4]) hr4 rfl
      exact ⟨⟨_, rfl, trivial⟩, N96, K0_96, bn35, ap, _, _, r32.toInt.toNat, nP, F73, F83, E_a_96, F_ids_a_96, F_positions_a_96, F_size_a_96, F_lastId_a_96, A73_96, A83_96, gQ35, g_ap, ne_a_bn35, ne_a_ap, (Ne.symm ne_ap_bn35), by omega, by omega, by omega, by omega, hj⟩
  · skip
    refine own_go (mkF m 41 #[.val (.ref a), .val (.int r4)] []) (fun t k => XS.icmpYes X13.here hx rfl (pc0 := 17) (pc' := 41) rfl (hb hby dJ_17) rfl (own_icT (cd := .ne) c17) (by decide) (by decide) k) ?_
    refine own_go (mkF m 42 #[.val (.ref a), .val (.int r4)] [(.int r4)]) (fun t k => XS.iloadN X13.here hx rfl (hb hby dJ_41) rfl k) ?_
    refine own_go (mkF m 43 #[.val (.ref a), .val (.int r4)] [(.ref a), (.int r4)]) (fun t k => XS.aloadN X13.here hx rfl (hb hby dJ_42) rfl rfl k) ?_
    obtain ⟨T43, X43, e43, st43⟩ := getF X13 hx hZ hown (host := "") (Or.inl (hw _ (List.mem_of_getElem? (i := 12) rfl))) Via.refl e13 F_positions_a (g := (mkF m 43 #[.val (.ref a), .val (.int r4)] [(.ref a), (.int r4)])) rfl rfl (hb hby dJ_43)
    refine own_go (T' := T43) (mkF m 46 #[.val (.ref a), .val (.int r4)] [(.ref ap), (.int r4)]) st43 ?_
    refine own_alen X43 hx hZ e43 A_ap zP hzP (g := (mkF m 46 #[.val (.ref a), .val (.int r4)] [(.ref ap), (.int r4)])) rfl rfl (hb hby dJ_46) ?_
    show own_Ends p e below s ({ frames := 2, cells := 2, slots := 32, locals := 40 } : Room).cells ({ frames := 2, cells := 2, slots := 32, locals := 40 } : Room).slots (QJ Z a ai ap sz la nI nP I P zI zP h0 n0) T43 (mkF m 47 #[.val (.ref a), .val (.int r4)] [(.int zP), (.int r4)])
    by_cases c47 : r4.toInt = zP.toInt
    · skip
      refine own_go (mkF m 50 #[.val (.ref a), .val (.int r4)] []) (fun t k => XS.icmpNo X43.here hx rfl (hb hby dJ_47) rfl (own_icF (cd := .ne) (fun q => q c47)) k) ?_
      refine own_go (mkF m 51 #[.val (.ref a), .val (.int r4)] [(.ref a)]) (fun t k => XS.aloadN X43.here hx rfl (hb hby dJ_50) rfl rfl k) ?_
      refine own_go (mkF m 52 #[.val (.ref a), .val (.int r4)] [(.ref a), (.ref a)]) (fun t k => XS.aloadN X43.here hx rfl (hb hby dJ_51) rfl rfl k) ?_
      obtain ⟨T52, X52, e52, st52⟩ := getF X43 hx hZ hown (host := "") (Or.inl (hw _ (List.mem_of_getElem? (i := 12) rfl))) Via.refl e43 F_positions_a (g := (mkF m 52 #[.val (.ref a), .val (.int r4)] [(.ref a), (.ref a)])) rfl rfl (hb hby dJ_52)
      refine own_go (T' := T52) (mkF m 55 #[.val (.ref a), .val (.int r4)] [(.ref ap), (.ref a)]) st52 ?_
      refine own_go (mkF m 56 #[.val (.ref a), .val (.int r4)] [(.int (2 : Int32)), (.ref ap), (.ref a)]) (fun t k => XS.iconst X52.here hx rfl (hb hby dJ_55) k) ?_
      refine own_go (mkF m 57 #[.val (.ref a), .val (.int r4)] [(.int r4), (.int (2 : Int32)), (.ref ap), (.ref a)]) (fun t k => XS.iloadN X52.here hx rfl (hb hby dJ_56) rfl k) ?_
      refine own_go (mkF m 58 #[.val (.ref a), .val (.int r4)] [(.int ((2 : Int32) * r4)), (.ref ap), (.ref a)]) (fun t k => XS.imul X52.here hx rfl (hb hby dJ_57) rfl k) ?_
      generalize hv57 : ((2 : Int32) * r4) = v57
      have f57 : (v57.toInt - (2 * r4.toInt)) % 4294967296 = 0 := by rw [← hv57]; exact c_imul (2 : Int32) r4
      have r57 := rng32 v57
      refine own_callS X52 hx hZ (y := (⟨"java/util/Arrays", "copyOf", "([II)[I"⟩ : MethodName)) hown (hw _ (List.mem_of_getElem? (i := 55) rfl)) (hw _ (List.mem_of_getElem? (i := 56) rfl)) (hw _ (List.mem_of_getElem? (i := 57) rfl)) (hw _ (List.mem_of_getElem? (i := 58) rfl)) (by decide) e52 (rmC l Z a0 hw [] ap v57 nP P zP h0 n0 Z0 A_ap hzP (by omega)) 1 (by decide) (by decide) (by decide) (by decide) (g := (mkF m 58 #[.val (.ref a), .val (.int r4)] [(.int v57), (.ref ap), (.ref a)])) rfl (by rw [hml]; rfl) [(.ref ap), (.int v57)] [(.ref a)] (lenOf pdJ_2 rfl) rfl rfl (by show 2 * 0 + _ ≤ _; exact Nat.le_of_eq rfl) (hb hby dJ_58) ?_
      intro rv58 T58 h58 L58 X58 e58 hQ58
      obtain ⟨bn58, G58, rfl, NQ58, KQ58, gQ58, ge58, AQ58, cp58⟩ := hQ58
      have ne_a_bn58 : a ≠ bn58 := fun q => absurd E_a.lt (by rw [q]; exact Nat.not_lt.mpr ge58)
      have ne_ai_bn58 : ai ≠ bn58 := fun q => absurd (own_Av.lt A_ai) (by rw [q]; exact Nat.not_lt.mpr ge58)
      have ne_ap_bn58 : ap ≠ bn58 := fun q => absurd (own_Av.lt A_ap) (by rw [q]; exact Nat.not_lt.mpr ge58)
      have E_a_58 := E_a.keep KQ58
      have F_ids_a_58 := F_ids_a.keep KQ58 nin0
      have F_positions_a_58 := F_positions_a.keep KQ58 nin0
      have F_size_a_58 := F_size_a.keep KQ58 nin0
      have F_lastId_a_58 := F_lastId_a.keep KQ58 nin0
      have A_ai_58 := own_Av.keep A_ai KQ58 nin0
      have A_ap_58 := own_Av.keep A_ap KQ58 nin0
      have K0_58 := K0.trans KQ58 all0
      have Z0_58 : n0 ≤ h58.size := Nat.le_trans Z0 KQ58.1
      have in58 : bn58 ∈ [a, ai, ap] ∨ h0.size ≤ bn58 := Or.inr (Nat.le_trans K0.1 ge58)
      have N58 := Fr.app N4 NQ58
      show own_Ends p e below s ({ frames := 2, cells := 2, slots := 32, locals := 40 } : Room).cells ({ frames := 2, cells := 2, slots := 32, locals := 40 } : Room).slots (QJ Z a ai ap sz la nI nP I P zI zP h0 n0) T58 (mkF m 61 #[.val (.ref a), .val (.int r4)] [(.ref bn58), (.ref a)])
      obtain ⟨T61, h61, X61, e61, W61, st61⟩ := putF X58 hx hZ hown (host := "") (Or.inl (hw _ (List.mem_of_getElem? (i := 12) rfl))) Via.refl e58 F_positions_a_58 E_a_58 (Or.inl (hw _ (List.mem_of_getElem? (i := 13) rfl))) (hw _ (List.mem_of_getElem? (i := 1) rfl)) (ty := (.array .int)) (by decide) rfl rfl (g := (mkF m 61 #[.val (.ref a), .val (.int r4)] [(.ref bn58), (.ref a)])) rfl rfl (hb hby dJ_61)
      have N61 := Fr.snoc X61 N58 g_a
      have E_a_61 := E_a_58.wr W61
      have F_ids_a_61 := F_ids_a_58.other W61 (Or.inr (slot_ne (Or.inl (hw _ (List.mem_of_getElem? (i := 11) rfl))) (Or.inl (hw _ (List.mem_of_getElem? (i := 13) rfl))) (by decide) (t := (.array .int)) (t' := (.array .int)) (by decide) (by decide)))
      have F_positions_a_61 := F_positions_a_58.same W61
      have F_size_a_61 := F_size_a_58.other W61 (Or.inr (slot_ne (Or.inl (hw _ (List.mem_of_getElem? (i := 37) rfl))) (Or.inl (hw _ (List.mem_of_getElem? (i := 13) rfl))) (by decide) (t := .int) (t' := (.array .int)) (by decide) (by decide)))
      have F_lastId_a_61 := F_lastId_a_58.other W61 (Or.inr (slot_ne (Or.inl (hw _ (List.mem_of_getElem? (i := 20) rfl))) (Or.inl (hw _ (List.mem_of_getElem? (i := 13) rfl))) (by decide) (t := .int) (t' := (.array .int)) (by decide) (by decide)))
      have A_ai_61 := own_Av.other A_ai_58 W61 (Ne.symm ne_a_ai)
      have A_ap_61 := own_Av.other A_ap_58 W61 (Ne.symm ne_a_ap)
      have K0_61 := K0_58.wr W61 (Or.inl (by simp))
      have Z0_61 : n0 ≤ h61.size := by rw [W61.size]; exact Z0_58
      have AQ58_61 := own_Av.other AQ58 W61 (Ne.symm ne_a_bn58)
      refine own_go (T' := T61) (mkF m 64 #[.val (.ref a), .val (.int r4)] []) st61 ?_
      refine own_go (mkF m 65 #[.val (.ref a), .val (.int r4)] [(.ref a)]) (fun t k => XS.aloadN X61.here hx rfl (hb hby dJ_64) rfl rfl k) ?_
      obtain ⟨T65, X65, e65, st65⟩ := getF X61 hx hZ hown (host := "") (Or.inl (hw _ (List.mem_of_getElem? (i := 10) rfl))) Via.refl e61 F_ids_a_61 (g := (mkF m 65 #[.val (.ref a), .val (.int r4)] [(.ref a)])) rfl rfl (hb hby dJ_65)
      refine own_go (T' := T65) (mkF m 68 #[.val (.ref a), .val (.int r4)] [(.ref ai)]) st65 ?_
      refine own_go (mkF m 69 #[.val (.ref a), .val (.int r4)] [(.ref a), (.ref ai)]) (fun t k => XS.aloadN X65.here hx rfl (hb hby dJ_68) rfl rfl k) ?_
      obtain ⟨T69, X69, e69, st69⟩ := getF X65 hx hZ hown (host := "") (Or.inl (hw _ (List.mem_of_getElem? (i := 36) rfl))) Via.refl e65 F_size_a_61 (g := (mkF m 69 #[.val (.ref a), .val (.int r4)] [(.ref a), (.ref ai)])) rfl rfl (hb hby dJ_69)
      refine own_go (T' := T69) (mkF m 72 #[.val (.ref a), .val (.int r4)] [(.int sz), (.ref ai)]) st69 ?_
      refine own_go (mkF m 73 #[.val (.ref a), .val (.int r4)] [(.int r4), (.int sz), (.ref ai)]) (fun t k => XS.iloadN X69.here hx rfl (hb hby dJ_72) rfl k) ?_
      refine own_iastore X69 hx hZ e69 A_ai_61 (j := sz) (x := r4) (by omega) (by omega) (g := (mkF m 73 #[.val (.ref a), .val (.int r4)] [(.int r4), (.int sz), (.ref ai)])) rfl rfl (hb hby dJ_73) ?_
      intro T73 h73 F73 X73 e73 W73 hF73 A73
      have N73 := Fr.snoc X73 N61 g_ai
      have E_a_73 := E_a_61.wr W73
      have F_ids_a_73 := F_ids_a_61.other W73 (Or.inl ne_a_ai)
      have F_positions_a_73 := F_positions_a_61.other W73 (Or.inl ne_a_ai)
      have F_size_a_73 := F_size_a_61.other W73 (Or.inl ne_a_ai)
      have F_lastId_a_73 := F_lastId_a_61.other W73 (Or.inl ne_a_ai)
      have A_ap_73 := own_Av.other A_ap_61 W73 (Ne.symm ne_ai_ap)
      have K0_73 := K0_61.wr W73 (Or.inl (by simp))
      have Z0_73 : n0 ≤ h73.size := by rw [W73.size]; exact Z0_61
      have AQ58_73 := own_Av.other AQ58_61 W73 (Ne.symm ne_ai_bn58)
      show own_Ends p e below s ({ frames := 2, cells := 2, slots := 32, locals := 40 } : Room).cells ({ frames := 2, cells := 2, slots := 32, locals := 40 } : Room).slots (QJ Z a ai ap sz la nI nP I P zI zP h0 n0) T73 (mkF m 74 #[.val (.ref a), .val (.int r4)] [])
      refine own_go (mkF m 75 #[.val (.ref a), .val (.int r4)] [(.ref a)]) (fun t k => XS.aloadN X73.here hx rfl (hb hby dJ_74) rfl rfl k) ?_
      obtain ⟨T75, X75, e75, st75⟩ := getF X73 hx hZ hown (host := "") (Or.inl (hw _ (List.mem_of_getElem? (i := 12) rfl))) Via.refl e73 F_positions_a_73 (g := (mkF m 75 #[.val (.ref a), .val (.int r4)] [(.ref a)])) rfl rfl (hb hby dJ_75)
      refine own_go (T' := T75) (mkF m 78 #[.val (.ref a), .val (.int r4)] [(.ref bn58)]) st75 ?_
      refine own_go (mkF m 79 #[.val (.ref a), .val (.int r4)] [(.int r4), (.ref bn58)]) (fun t k => XS.iloadN X75.here hx rfl (hb hby dJ_78) rfl k) ?_
      refine own_go (mkF m 80 #[.val (.ref a), .val (.int r4)] [(.ref a), (.int r4), (.ref bn58)]) (fun t k => XS.aloadN X75.here hx rfl (hb hby dJ_79) rfl rfl k) ?_
      obtain ⟨T80, X80, e80, st80⟩ := getF X75 hx hZ hown (host := "") (Or.inl (hw _ (List.mem_of_getElem? (i := 36) rfl))) Via.refl e75 F_size_a_73 (g := (mkF m 80 #[.val (.ref a), .val (.int r4)] [(.ref a), (.int r4), (.ref bn58)])) rfl rfl (hb hby dJ_80)
      refine own_go (T' := T80) (mkF m 83 #[.val (.ref a), .val (.int r4)] [(.int sz), (.int r4), (.ref bn58)]) st80 ?_
      refine own_iastore X80 hx hZ e80 AQ58_73 (j := r4) (x := sz) (by omega) (by omega) (g := (mkF m 83 #[.val (.ref a), .val (.int r4)] [(.int sz), (.int r4), (.ref bn58)])) rfl rfl (hb hby dJ_83) ?_
      intro T83 h83 F83 X83 e83 W83 hF83 A83
      have N83 := Fr.snoc X83 N73 gQ58
      have E_a_83 := E_a_73.wr W83
      have F_ids_a_83 := F_ids_a_73.other W83 (Or.inl ne_a_bn58)
      have F_positions_a_83 := F_positions_a_73.other W83 (Or.inl ne_a_bn58)
      have F_size_a_83 := F_size_a_73.other W83 (Or.inl ne_a_bn58)
      have F_lastId_a_83 := F_lastId_a_73.other W83 (Or.inl ne_a_bn58)
      have A_ap_83 := own_Av.other A_ap_73 W83 ne_ap_bn58
      have K0_83 := K0_73.wr W83 in58
      have Z0_83 : n0 ≤ h83.size := by rw [W83.size]; exact Z0_73
      have A73_83 := own_Av.other A73 W83 ne_ai_bn58
      show own_Ends p e below s ({ frames := 2, cells := 2, slots := 32, locals := 40 } : Room).cells ({ frames := 2, cells := 2, slots := 32, locals := 40 } : Room).slots (QJ Z a ai ap sz la nI nP I P zI zP h0 n0) T83 (mkF m 84 #[.val (.ref a), .val (.int r4)] [])
      refine own_go (mkF m 85 #[.val (.ref a), .val (.int r4)] [(.ref a)]) (fun t k => XS.aloadN X83.here hx rfl (hb hby dJ_84) rfl rfl k) ?_
      refine own_go (mkF m 86 #[.val (.ref a), .val (.int r4)] [(.ref a), (.ref a)]) (fun t k => XS.dup X83.here hx rfl (hb hby dJ_85) rfl rfl k) ?_
      obtain ⟨T86, X86, e86, st86⟩ := getF X83 hx hZ hown (host := "") (Or.inl (hw _ (List.mem_of_getElem? (i := 36) rfl))) Via.refl e83 F_size_a_83 (g := (mkF m 86 #[.val (.ref a), .val (.int r4)] [(.ref a), (.ref a)])) rfl rfl (hb hby dJ_86)
      refine own_go (T' := T86) (mkF m 89 #[.val (.ref a), .val (.int r4)] [(.int sz), (.ref a)]) st86 ?_
      refine own_go (mkF m 90 #[.val (.ref a), .val (.int r4)] [(.int (1 : Int32)), (.int sz), (.ref a)]) (fun t k => XS.iconst X86.here hx rfl (hb hby dJ_89) k) ?_
      refine own_go (mkF m 91 #[.val (.ref a), .val (.int r4)] [(.int (sz + (1 : Int32))), (.ref a)]) (fun t k => XS.iadd X86.here hx rfl (hb hby dJ_90) rfl k) ?_
      generalize hv90 : (sz + (1 : Int32)) = v90
      have f90 : (v90.toInt - (sz.toInt + 1)) % 4294967296 = 0 := by rw [← hv90]; exact c_iadd sz (1 : Int32)
      have r90 := rng32 v90
      obtain ⟨T91, h91, X91, e91, W91, st91⟩ := putF X86 hx hZ hown (host := "") (Or.inl (hw _ (List.mem_of_getElem? (i := 36) rfl))) Via.refl e86 F_size_a_83 E_a_83 (Or.inl (hw _ (List.mem_of_getElem? (i := 37) rfl))) (hw _ (List.mem_of_getElem? (i := 1) rfl)) (ty := .int) (by decide) rfl rfl (g := (mkF m 91 #[.val (.ref a), .val (.int r4)] [(.int v90), (.ref a)])) rfl rfl (hb hby dJ_91)
      have N91 := Fr.snoc X91 N83 g_a
      have E_a_91 := E_a_83.wr W91
      have F_ids_a_91 := F_ids_a_83.other W91 (Or.inr (slot_ne (Or.inl (hw _ (List.mem_of_getElem? (i := 11) rfl))) (Or.inl (hw _ (List.mem_of_getElem? (i := 37) rfl))) (by decide) (t := (.array .int)) (t' := .int) (by decide) (by decide)))
      have F_positions_a_91 := F_positions_a_83.other W91 (Or.inr (slot_ne (Or.inl (hw _ (List.mem_of_getElem? (i := 13) rfl))) (Or.inl (hw _ (List.mem_of_getElem? (i := 37) rfl))) (by decide) (t := (.array .int)) (t' := .int) (by decide) (by decide)))
      have F_size_a_91 := F_size_a_83.same W91
      have F_lastId_a_91 := F_lastId_a_83.other W91 (Or.inr (slot_ne (Or.inl (hw _ (List.mem_of_getElem? (i := 20) rfl))) (Or.inl (hw _ (List.mem_of_getElem? (i := 37) rfl))) (by decide) (t := .int) (t' := .int) (by decide) (by decide)))
      have A_ap_91 := own_Av.other A_ap_83 W91 (Ne.symm ne_a_ap)
      have K0_91 := K0_83.wr W91 (Or.inl (by simp))
      have Z0_91 : n0 ≤ h91.size := by rw [W91.size]; exact Z0_83
      have A73_91 := own_Av.other A73_83 W91 (Ne.symm ne_a_ai)
      have A83_91 := own_Av.other A83 W91 (Ne.symm ne_a_bn58)
      refine own_go (T' := T91) (mkF m 94 #[.val (.ref a), .val (.int r4)] []) st91 ?_
      refine own_go (mkF m 95 #[.val (.ref a), .val (.int r4)] [(.ref a)]) (fun t k => XS.aloadN X91.here hx rfl (hb hby dJ_94) rfl rfl k) ?_
      refine own_go (mkF m 96 #[.val (.ref a), .val (.int r4)] [(.int r4), (.ref a)]) (fun t k => XS.iloadN X91.here hx rfl (hb hby dJ_95) rfl k) ?_
      obtain ⟨T96, h96, X96, e96, W96, st96⟩ := putF X91 hx hZ hown (host := "") (Or.inl (hw _ (List.mem_of_getElem? (i := 19) rfl))) Via.refl e91 F_lastId_a_91 E_a_91 (Or.inl (hw _ (List.mem_of_getElem? (i := 20) rfl))) (hw _ (List.mem_of_getElem? (i := 1) rfl)) (ty := .int) (by decide) rfl rfl (g := (mkF m 96 #[.val (.ref a), .val (.int r4)] [(.int r4), (.ref a)])) rfl rfl (hb hby dJ_96)
      have N96 := Fr.snoc X96 N91 g_a
      have E_a_96 := E_a_91.wr W96
      have F_ids_a_96 := F_ids_a_91.other W96 (Or.inr (slot_ne (Or.inl (hw _ (List.mem_of_getElem? (i := 11) rfl))) (Or.inl (hw _ (List.mem_of_getElem? (i := 20) rfl))) (by decide) (t := (.array .int)) (t' := .int) (by decide) (by decide)))
      have F_positions_a_96 := F_positions_a_91.other W96 (Or.inr (slot_ne (Or.inl (hw _ (List.mem_of_getElem? (i := 13) rfl))) (Or.inl (hw _ (List.mem_of_getElem? (i := 20) rfl))) (by decide) (t := (.array .int)) (t' := .int) (by decide) (by decide)))
      have F_size_a_96 := F_size_a_91.other W96 (Or.inr (slot_ne (Or.inl (hw _ (List.mem_of_getElem? (i := 37) rfl))) (Or.inl (hw _ (List.mem_of_getElem? (i := 20) rfl))) (by decide) (t := .int) (t' := .int) (by decide) (by decide)))
      have F_lastId_a_96 := F_lastId_a_91.same W96
      have A_ap_96 := own_Av.other A_ap_91 W96 (Ne.symm ne_a_ap)
      have K0_96 := K0_91.wr W96 (Or.inl (by simp))
      have Z0_96 : n0 ≤ h96.size := by rw [W96.size]; exact Z0_91
      have A73_96 := own_Av.other A73_91 W96 (Ne.symm ne_a_ai)
      have A83_96 := own_Av.other A83_91 W96 (Ne.symm ne_a_bn58)
      refine own_go (T' := T96) (mkF m 99 #[.val (.ref a), .val (.int r4)] []) st96 ?_
      refine own_go (mkF m 100 #[.val (.ref a), .val (.int r4)] [(.int r4)]) (fun t k => XS.iloadN X96.here hx rfl (hb hby dJ_99) rfl k) ?_
      refine own_retI X96 hx hlk hret (by simp) rfl (hb hby dJ_100) (by decide) (by decide) ?_
      rw [e96]
      have hJ : ∀ i : Int, 0 ≤ i → i < sz.toInt → own_G I i = own_G I i := fun i _ _ => rfl
      have hO : ∀ i : Int, 1 ≤ i → i ≤ la.toInt → own_G G58 i = own_G P i := fun i q1 q2 => own_G_eq (n := nP) (fun j hj => cp58 j hj (by omega)) (by omega) (by omega)
      have hj : own_jn sz.toInt la.toInt I P F73 F83 := own_jn_of (by omega) (by omega) hJ hO hF73 (by rw [hF83, hr4]) hr4 rfl
      exact ⟨⟨_, rfl, trivial⟩, N96, K0_96, ai, bn58, _, _, nI, v57.toInt.toNat, F73, F83, E_a_96, F_ids_a_96, F_positions_a_96, F_size_a_96, F_lastId_a_96, A73_96, A83_96, g_ai, gQ58, ne_a_ai, ne_a_bn58, ne_ai_bn58, by omega, by omega, by omega, by omega, hj⟩
    · skip
      refine own_go (mkF m 64 #[.val (.ref a), .val (.int r4)] []) (fun t k => XS.icmpYes X43.here hx rfl (pc0 := 47) (pc' := 64) rfl (hb hby dJ_47) rfl (own_icT (cd := .ne) c47) (by decide) (by decide) k) ?_
      refine own_go (mkF m 65 #[.val (.ref a), .val (.int r4)] [(.ref a)]) (fun t k => XS.aloadN X43.here hx rfl (hb hby dJ_64) rfl rfl k) ?_
      obtain ⟨T65, X65, e65, st65⟩ := getF X43 hx hZ hown (host := "") (Or.inl (hw _ (List.mem_of_getElem? (i := 10) rfl))) Via.refl e43 F_ids_a (g := (mkF m 65 #[.val (.ref a), .val (.int r4)] [(.ref a)])) rfl rfl (hb hby dJ_65)
      refine own_go (T' := T65) (mkF m 68 #[.val (.ref a), .val (.int r4)] [(.ref ai)]) st65 ?_
      refine own_go (mkF m 69 #[.val (.ref a), .val (.int r4)] [(.ref a), (.ref ai)]) (fun t k => XS.aloadN X65.here hx rfl (hb hby dJ_68) rfl rfl k) ?_
      obtain ⟨T69, X69, e69, st69⟩ := getF X65 hx hZ hown (host := "") (Or.inl (hw _ (List.mem_of_getElem? (i := 36) rfl))) Via.refl e65 F_size_a (g := (mkF m 69 #[.val (.ref a), .val (.int r4)] [(.ref a), (.ref ai)])) rfl rfl (hb hby dJ_69)
      refine own_go (T' := T69) (mkF m 72 #[.val (.ref a), .val (.int r4)] [(.int sz), (.ref ai)]) st69 ?_
      refine own_go (mkF m 73 #[.val (.ref a), .val (.int r4)] [(.int r4), (.int sz), (.ref ai)]) (fun t k => XS.iloadN X69.here hx rfl (hb hby dJ_72) rfl k) ?_
      refine own_iastore X69 hx hZ e69 A_ai (j := sz) (x := r4) (by omega) (by omega) (g := (mkF m 73 #[.val (.ref a), .val (.int r4)] [(.int r4), (.int sz), (.ref ai)])) rfl rfl (hb hby dJ_73) ?_
      intro T73 h73 F73 X73 e73 W73 hF73 A73
      have N73 := Fr.snoc X73 N4 g_ai
      have E_a_73 := E_a.wr W73
      have F_ids_a_73 := F_ids_a.other W73 (Or.inl ne_a_ai)
      have F_positions_a_73 := F_positions_a.other W73 (Or.inl ne_a_ai)
      have F_size_a_73 := F_size_a.other W73 (Or.inl ne_a_ai)
      have F_lastId_a_73 := F_lastId_a.other W73 (Or.inl ne_a_ai)
      have A_ap_73 := own_Av.other A_ap W73 (Ne.symm ne_ai_ap)
      have K0_73 := K0.wr W73 (Or.inl (by simp))
      have Z0_73 : n0 ≤ h73.size := by rw [W73.size]; exact Z0
      show own_Ends p e below s ({ frames := 2, cells := 2, slots := 32, locals := 40 } : Room).cells ({ frames := 2, cells := 2, slots := 32, locals := 40 } : Room).slots (QJ Z a ai ap sz la nI nP I P zI zP h0 n0) T73 (mkF m 74 #[.val (.ref a), .val (.int r4)] [])
      refine own_go (mkF m 75 #[.val (.ref a), .val (.int r4)] [(.ref a)]) (fun t k => XS.aloadN X73.here hx rfl (hb hby dJ_74) rfl rfl k) ?_
      obtain ⟨T75, X75, e75, st75⟩ := getF X73 hx hZ hown (host := "") (Or.inl (hw _ (List.mem_of_getElem? (i := 12) rfl))) Via.refl e73 F_positions_a_73 (g := (mkF m 75 #[.val (.ref a), .val (.int r4)] [(.ref a)])) rfl rfl (hb hby dJ_75)
      refine own_go (T' := T75) (mkF m 78 #[.val (.ref a), .val (.int r4)] [(.ref ap)]) st75 ?_
      refine own_go (mkF m 79 #[.val (.ref a), .val (.int r4)] [(.int r4), (.ref ap)]) (fun t k => XS.iloadN X75.here hx rfl (hb hby dJ_78) rfl k) ?_
      refine own_go (mkF m 80 #[.val (.ref a), .val (.int r4)] [(.ref a), (.int r4), (.ref ap)]) (fun t k => XS.aloadN X75.here hx rfl (hb hby dJ_79) rfl rfl k) ?_
      obtain ⟨T80, X80, e80, st80⟩ := getF X75 hx hZ hown (host := "") (Or.inl (hw _ (List.mem_of_getElem? (i := 36) rfl))) Via.refl e75 F_size_a_73 (g := (mkF m 80 #[.val (.ref a), .val (.int r4)] [(.ref a), (.int r4), (.ref ap)])) rfl rfl (hb hby dJ_80)
      refine own_go (T' := T80) (mkF m 83 #[.val (.ref a), .val (.int r4)] [(.int sz), (.int r4), (.ref ap)]) st80 ?_
      refine own_iastore X80 hx hZ e80 A_ap_73 (j := r4) (x := sz) (by omega) (by omega) (g := (mkF m 83 #[.val (.ref a), .val (.int r4)] [(.int sz), (.int r4), (.ref ap)])) rfl rfl (hb hby dJ_83) ?_
      intro T83 h83 F83 X83 e83 W83 hF83 A83
      have N83 := Fr.snoc X83 N73 g_ap
      have E_a_83 := E_a_73.wr W83
      have F_ids_a_83 := F_ids_a_73.other W83 (Or.inl ne_a_ap)
      have F_positions_a_83 := F_positions_a_73.other W83 (Or.inl ne_a_ap)
      have F_size_a_83 := F_size_a_73.other W83 (Or.inl ne_a_ap)
      have F_lastId_a_83 := F_lastId_a_73.other W83 (Or.inl ne_a_ap)
      have K0_83 := K0_73.wr W83 (Or.inl (by simp))
      have Z0_83 : n0 ≤ h83.size := by rw [W83.size]; exact Z0_73
      have A73_83 := own_Av.other A73 W83 ne_ai_ap
      show own_Ends p e below s ({ frames := 2, cells := 2, slots := 32, locals := 40 } : Room).cells ({ frames := 2, cells := 2, slots := 32, locals := 40 } : Room).slots (QJ Z a ai ap sz la nI nP I P zI zP h0 n0) T83 (mkF m 84 #[.val (.ref a), .val (.int r4)] [])
      refine own_go (mkF m 85 #[.val (.ref a), .val (.int r4)] [(.ref a)]) (fun t k => XS.aloadN X83.here hx rfl (hb hby dJ_84) rfl rfl k) ?_
      refine own_go (mkF m 86 #[.val (.ref a), .val (.int r4)] [(.ref a), (.ref a)]) (fun t k => XS.dup X83.here hx rfl (hb hby dJ_85) rfl rfl k) ?_
      obtain ⟨T86, X86, e86, st86⟩ := getF X83 hx hZ hown (host := "") (Or.inl (hw _ (List.mem_of_getElem? (i := 36) rfl))) Via.refl e83 F_size_a_83 (g := (mkF m 86 #[.val (.ref a), .val (.int r4)] [(.ref a), (.ref a)])) rfl rfl (hb hby dJ_86)
      refine own_go (T' := T86) (mkF m 89 #[.val (.ref a), .val (.int r4)] [(.int sz), (.ref a)]) st86 ?_
      refine own_go (mkF m 90 #[.val (.ref a), .val (.int r4)] [(.int (1 : Int32)), (.int sz), (.ref a)]) (fun t k => XS.iconst X86.here hx rfl (hb hby dJ_89) k) ?_
      refine own_go (mkF m 91 #[.val (.ref a), .val (.int r4)] [(.int (sz + (1 : Int32))), (.ref a)]) (fun t k => XS.iadd X86.here hx rfl (hb hby dJ_90) rfl k) ?_
      generalize hv90 : (sz + (1 : Int32)) = v90
      have f90 : (v90.toInt - (sz.toInt + 1)) % 4294967296 = 0 := by rw [← hv90]; exact c_iadd sz (1 : Int32)
      have r90 := rng32 v90
      obtain ⟨T91, h91, X91, e91, W91, st91⟩ := putF X86 hx hZ hown (host := "") (Or.inl (hw _ (List.mem_of_getElem? (i := 36) rfl))) Via.refl e86 F_size_a_83 E_a_83 (Or.inl (hw _ (List.mem_of_getElem? (i := 37) rfl))) (hw _ (List.mem_of_getElem? (i := 1) rfl)) (ty := .int) (by decide) rfl rfl (g := (mkF m 91 #[.val (.ref a), .val (.int r4)] [(.int v90), (.ref a)])) rfl rfl (hb hby dJ_91)
      have N91 := Fr.snoc X91 N83 g_a
      have E_a_91 := E_a_83.wr W91
      have F_ids_a_91 := F_ids_a_83.other W91 (Or.inr (slot_ne (Or.inl (hw _ (List.mem_of_getElem? (i := 11) rfl))) (Or.inl (hw _ (List.mem_of_getElem? (i := 37) rfl))) (by decide) (t := (.array .int)) (t' := .int) (by decide) (by decide)))
      have F_positions_a_91 := F_positions_a_83.other W91 (Or.inr (slot_ne (Or.inl (hw _ (List.mem_of_getElem? (i := 13) rfl))) (Or.inl (hw _ (List.mem_of_getElem? (i := 37) rfl))) (by decide) (t := (.array .int)) (t' := .int) (by decide) (by decide)))
      have F_size_a_91 := F_size_a_83.same W91
      have F_lastId_a_91 := F_lastId_a_83.other W91 (Or.inr (slot_ne (Or.inl (hw _ (List.mem_of_getElem? (i := 20) rfl))) (Or.inl (hw _ (List.mem_of_getElem? (i := 37) rfl))) (by decide) (t := .int) (t' := .int) (by decide) (by decide)))
      have K0_91 := K0_83.wr W91 (Or.inl (by simp))
      have Z0_91 : n0 ≤ h91.size := by rw [W91.size]; exact Z0_83
      have A73_91 := own_Av.other A73_83 W91 (Ne.symm ne_a_ai)
      have A83_91 := own_Av.other A83 W91 (Ne.symm ne_a_ap)
      refine own_go (T' := T91) (mkF m 94 #[.val (.ref a), .val (.int r4)] []) st91 ?_
      refine own_go (mkF m 95 #[.val (.ref a), .val (.int r4)] [(.ref a)]) (fun t k => XS.aloadN X91.here hx rfl (hb hby dJ_94) rfl rfl k) ?_
      refine own_go (mkF m 96 #[.val (.ref a), .val (.int r4)] [(.int r4), (.ref a)]) (fun t k => XS.iloadN X91.here hx rfl (hb hby dJ_95) rfl k) ?_
      obtain ⟨T96, h96, X96, e96, W96, st96⟩ := putF X91 hx hZ hown (host := "") (Or.inl (hw _ (List.mem_of_getElem? (i := 19) rfl))) Via.refl e91 F_lastId_a_91 E_a_91 (Or.inl (hw _ (List.mem_of_getElem? (i := 20) rfl))) (hw _ (List.mem_of_getElem? (i := 1) rfl)) (ty := .int) (by decide) rfl rfl (g := (mkF m 96 #[.val (.ref a), .val (.int r4)] [(.int r4), (.ref a)])) rfl rfl (hb hby dJ_96)
      have N96 := Fr.snoc X96 N91 g_a
      have E_a_96 := E_a_91.wr W96
      have F_ids_a_96 := F_ids_a_91.other W96 (Or.inr (slot_ne (Or.inl (hw _ (List.mem_of_getElem? (i := 11) rfl))) (Or.inl (hw _ (List.mem_of_getElem? (i := 20) rfl))) (by decide) (t := (.array .int)) (t' := .int) (by decide) (by decide)))
      have F_positions_a_96 := F_positions_a_91.other W96 (Or.inr (slot_ne (Or.inl (hw _ (List.mem_of_getElem? (i := 13) rfl))) (Or.inl (hw _ (List.mem_of_getElem? (i := 20) rfl))) (by decide) (t := (.array .int)) (t' := .int) (by decide) (by decide)))
      have F_size_a_96 := F_size_a_91.other W96 (Or.inr (slot_ne (Or.inl (hw _ (List.mem_of_getElem? (i := 37) rfl))) (Or.inl (hw _ (List.mem_of_getElem? (i := 20) rfl))) (by decide) (t := .int) (t' := .int) (by decide) (by decide)))
      have F_lastId_a_96 := F_lastId_a_91.same W96
      have K0_96 := K0_91.wr W96 (Or.inl (by simp))
      have Z0_96 : n0 ≤ h96.size := by rw [W96.size]; exact Z0_91
      have A73_96 := own_Av.other A73_91 W96 (Ne.symm ne_a_ai)
      have A83_96 := own_Av.other A83_91 W96 (Ne.symm ne_a_ap)
      refine own_go (T' := T96) (mkF m 99 #[.val (.ref a), .val (.int r4)] []) st96 ?_
      refine own_go (mkF m 100 #[.val (.ref a), .val (.int r4)] [(.int r4)]) (fun t k => XS.iloadN X96.here hx rfl (hb hby dJ_99) rfl k) ?_
      refine own_retI X96 hx hlk hret (by simp) rfl (hb hby dJ_100) (by decide) (by decide) ?_
      rw [e96]
      have hJ : ∀ i : Int, 0 ≤ i → i < sz.toInt → own_G I i = own_G I i := fun i _ _ => rfl
      have hO : ∀ i : Int, 1 ≤ i → i ≤ la.toInt → own_G P i = own_G P i := fun i _ _ => rfl
      have hj : own_jn sz.toInt la.toInt I P F73 F83 := own_jn_of (by omega) (by omega) hJ hO hF73 (by rw [hF83, hr4]) hr4 rfl
      exact ⟨⟨_, rfl, trivial⟩, N96, K0_96, ai, ap, _, _, nI, nP, F73, F83, E_a_96, F_ids_a_96, F_positions_a_96, F_size_a_96, F_lastId_a_96, A73_96, A83_96, g_ai, g_ap, ne_a_ai, ne_a_ap, ne_ai_ap, by omega, by omega, by omega, by omega, hj⟩
theorem d4_0 : decode prog_14_method_4_code 0 = .ok (.iload_n 1, 1) := by decide +kernel
theorem d4_1 : decode prog_14_method_4_code 1 = .ok (.ifCond .le 20, 3) := by decide +kernel
theorem d4_4 : decode prog_14_method_4_code 4 = .ok (.iload_n 1, 1) := by decide +kernel
theorem d4_5 : decode prog_14_method_4_code 5 = .ok (.aload_n 0, 1) := by decide +kernel
theorem d4_6 : decode prog_14_method_4_code 6 = .ok (.getfield 29, 3) := by decide +kernel
theorem d4_9 : decode prog_14_method_4_code 9 = .ok (.if_icmp .gt 12, 3) := by decide +kernel
theorem d4_12 : decode prog_14_method_4_code 12 = .ok (.aload_n 0, 1) := by decide +kernel
theorem d4_13 : decode prog_14_method_4_code 13 = .ok (.getfield 13, 3) := by decide +kernel
theorem d4_16 : decode prog_14_method_4_code 16 = .ok (.iload_n 1, 1) := by decide +kernel
theorem d4_17 : decode prog_14_method_4_code 17 = .ok (.iaload, 1) := by decide +kernel
theorem d4_18 : decode prog_14_method_4_code 18 = .ok (.goto 4, 3) := by decide +kernel
theorem d4_21 : decode prog_14_method_4_code 21 = .ok (.iconst (-1), 1) := by decide +kernel
theorem d4_22 : decode prog_14_method_4_code 22 = .ok (.ireturn, 1) := by decide +kernel
theorem pf4 : plainFor (⟨"com/example/chronoquorum/chronoquorum/LiveNodes", "positionOf", "(I)I"⟩ : MethodName) = true := by decide +kernel
set_option maxHeartbeats 4000000 in
theorem ef4 (m : MethodId) (a : Addr) (q1 : Int32) : entryFrame m #[(.ref a), (.int q1)] 2 = (mkF m 0 #[.val (.ref a), .val (.int q1)] []) := by first | (simp [entryFrame, mkF, argsToLocals, Value.category, maxLocals]; done) | rfl
def Q4 (Z : State) (a : Addr) (q1 : Int32) (ap : Addr) (la : Int32) (nP : Nat) (P : Nat → Int32) (h0 : Heap) (n0 : Nat) (v : Option Value) (h : Heap) (L : List Loc) : Prop := (∃ r : Int32, v = some (.int r) ∧ ((1 ≤ q1.toInt ∧ q1.toInt ≤ la.toInt → r.toInt = own_G P q1.toInt) ∧ (¬ (1 ≤ q1.toInt ∧ q1.toInt ≤ la.toInt) → r.toInt = -1))) ∧ Fr n0 L ∧ h = h0
set_option maxRecDepth 65536 in
set_option maxHeartbeats 40000000 in
theorem rm4 (l : Launch) (Z : State) (a0 : Array Value) (hw : ∀ d ∈ tables_1, d.before a0 Z = true) (ws : List Jvm.Cond) (a : Addr) (q1 : Int32) (ap : Addr) (la : Int32) (nP : Nat) (P : Nat → Int32) (h0 : Heap) (n0 : Nat) (Z0 : n0 ≤ h0.size) (E_a : Exa Z h0 a "com/example/chronoquorum/chronoquorum/LiveNodes") (F_positions_a : Fld Z h0 a "com/example/chronoquorum/chronoquorum/LiveNodes" "positions" "[I" (.ref ap)) (F_lastId_a : Fld Z h0 a "com/example/chronoquorum/chronoquorum/LiveNodes" "lastId" "I" (.int la)) (A_ap : own_AI Z h0 ap .int nP P) (hp : la.toInt < nP) :
    MetFree l (⟨"com/example/chronoquorum/chronoquorum/LiveNodes", "positionOf", "(I)I"⟩ : MethodName) (head1 (Jvm.Cond.code (⟨"com/example/chronoquorum/chronoquorum/LiveNodes", "positionOf", "(I)I"⟩ : MethodName) prog_14_method_4_code 2 (some Jvm.ClassFile.FieldType.int) :: ws) ({ frames := 0, cells := 0, slots := 0, locals := 0 } : Room)) (fun aa U => aa = #[(.ref a), (.int q1)] ∧ Z.Warmed39 U.vm ∧ U.heap = h0) (fun _ _ _ _ _ => True) (fun _ U o U' => ∃ v L, o = .returned v ∧ Q4 Z a q1 ap la nP P h0 n0 v U'.heap L ∧ FrameEnd U o U' L ({ frames := 0, cells := 0, slots := 0, locals := 0 } : Room).cells ({ frames := 0, cells := 0, slots := 0, locals := 0 } : Room).slots) := by
  refine own_met pf4 ?_
  intro p e s m below meth c T0 hx hby hml hown hret hlk hnm hZ X0 e0
  have N0 := Fr.nil n0
  have r_q1 := rng32 q1
  rw [ef4]
  refine own_go (mkF m 1 #[.val (.ref a), .val (.int q1)] [(.int q1)]) (fun t k => XS.iloadN X0.here hx rfl (hb hby d4_0) rfl k) ?_
  by_cases c1 : q1.toInt ≤ 0
  · skip
    refine own_go (mkF m 21 #[.val (.ref a), .val (.int q1)] []) (fun t k => XS.ifYes X0.here hx rfl (pc0 := 1) (pc' := 21) rfl (hb hby d4_1) rfl (own_zT (cd := .le) c1) (by decide) (by decide) k) ?_
    refine own_go (mkF m 22 #[.val (.ref a), .val (.int q1)] [(.int (-1 : Int32))]) (fun t k => XS.iconst X0.here hx rfl (hb hby d4_21) k) ?_
    refine own_retI X0 hx hlk hret (by simp) rfl (hb hby d4_22) (by decide) (by decide) ?_
    rw [e0]
    refine ⟨⟨_, rfl, ?_⟩, N0, rfl⟩
    have lz : (-1 : Int32).toInt = -1 := rfl
    omega
  · skip
    refine own_go (mkF m 4 #[.val (.ref a), .val (.int q1)] []) (fun t k => XS.ifNo X0.here hx rfl (hb hby d4_1) rfl (own_zF (cd := .le) c1) k) ?_
    refine own_go (mkF m 5 #[.val (.ref a), .val (.int q1)] [(.int q1)]) (fun t k => XS.iloadN X0.here hx rfl (hb hby d4_4) rfl k) ?_
    refine own_go (mkF m 6 #[.val (.ref a), .val (.int q1)] [(.ref a), (.int q1)]) (fun t k => XS.aloadN X0.here hx rfl (hb hby d4_5) rfl rfl k) ?_
    obtain ⟨T6, X6, e6, st6⟩ := getF X0 hx hZ hown (host := "") (Or.inl (hw _ (List.mem_of_getElem? (i := 19) rfl))) Via.refl e0 F_lastId_a (g := (mkF m 6 #[.val (.ref a), .val (.int q1)] [(.ref a), (.int q1)])) rfl rfl (hb hby d4_6)
    refine own_go (T' := T6) (mkF m 9 #[.val (.ref a), .val (.int q1)] [(.int la), (.int q1)]) st6 ?_
    by_cases c9 : la.toInt < q1.toInt
    · skip
      refine own_go (mkF m 21 #[.val (.ref a), .val (.int q1)] []) (fun t k => XS.icmpYes X6.here hx rfl (pc0 := 9) (pc' := 21) rfl (hb hby d4_9) rfl (own_icT (cd := .gt) c9) (by decide) (by decide) k) ?_
      refine own_go (mkF m 22 #[.val (.ref a), .val (.int q1)] [(.int (-1 : Int32))]) (fun t k => XS.iconst X6.here hx rfl (hb hby d4_21) k) ?_
      refine own_retI X6 hx hlk hret (by simp) rfl (hb hby d4_22) (by decide) (by decide) ?_
      rw [e6]
      refine ⟨⟨_, rfl, ?_⟩, N0, rfl⟩
      have lz : (-1 : Int32).toInt = -1 := rfl
      omega
    · skip
      refine own_go (mkF m 12 #[.val (.ref a), .val (.int q1)] []) (fun t k => XS.icmpNo X6.here hx rfl (hb hby d4_9) rfl (own_icF (cd := .gt) c9) k) ?_
      refine own_go (mkF m 13 #[.val (.ref a), .val (.int q1)] [(.ref a)]) (fun t k => XS.aloadN X6.here hx rfl (hb hby d4_12) rfl rfl k) ?_
      obtain ⟨T13, X13, e13, st13⟩ := getF X6 hx hZ hown (host := "") (Or.inl (hw _ (List.mem_of_getElem? (i := 12) rfl))) Via.refl e6 F_positions_a (g := (mkF m 13 #[.val (.ref a), .val (.int q1)] [(.ref a)])) rfl rfl (hb hby d4_13)
      refine own_go (T' := T13) (mkF m 16 #[.val (.ref a), .val (.int q1)] [(.ref ap)]) st13 ?_
      refine own_go (mkF m 17 #[.val (.ref a), .val (.int q1)] [(.int q1), (.ref ap)]) (fun t k => XS.iloadN X13.here hx rfl (hb hby d4_16) rfl k) ?_
      refine own_iaload X13 hx hZ e13 A_ap (j := q1) (by omega) (by show (q1.toInt : Int) < _; omega) (g := (mkF m 17 #[.val (.ref a), .val (.int q1)] [(.int q1), (.ref ap)])) rfl rfl (hb hby d4_17) ?_
      generalize hv17 : P q1.toInt.toNat = v17
      have r17 := rng32 v17
      show own_Ends p e below s ({ frames := 0, cells := 0, slots := 0, locals := 0 } : Room).cells ({ frames := 0, cells := 0, slots := 0, locals := 0 } : Room).slots (Q4 Z a q1 ap la nP P h0 n0) T13 (mkF m 18 #[.val (.ref a), .val (.int q1)] [(.int v17)])
      have e17 : own_G P q1.toInt = v17.toInt := by unfold own_G; rw [hv17]
      refine own_go (mkF m 22 #[.val (.ref a), .val (.int q1)] [(.int v17)]) (fun t k => XS.goto X13.here hx rfl (pc0 := 18) (pc' := 22) rfl (hb hby d4_18) (by decide) (by decide) k) ?_
      refine own_retI X13 hx hlk hret (by simp) rfl (hb hby d4_22) (by decide) (by decide) ?_
      rw [e13]
      refine ⟨⟨_, rfl, ?_⟩, N0, rfl⟩
      omega
theorem d5_0 : decode prog_14_method_5_code 0 = .ok (.aload_n 0, 1) := by decide +kernel
theorem d5_1 : decode prog_14_method_5_code 1 = .ok (.iload_n 1, 1) := by decide +kernel
theorem d5_2 : decode prog_14_method_5_code 2 = .ok (.invokevirtual 32, 3) := by decide +kernel
theorem d5_5 : decode prog_14_method_5_code 5 = .ok (.iconst (-1), 1) := by decide +kernel
theorem d5_6 : decode prog_14_method_5_code 6 = .ok (.if_icmp .eq 7, 3) := by decide +kernel
theorem d5_9 : decode prog_14_method_5_code 9 = .ok (.iconst 1, 1) := by decide +kernel
theorem d5_10 : decode prog_14_method_5_code 10 = .ok (.goto 4, 3) := by decide +kernel
theorem d5_13 : decode prog_14_method_5_code 13 = .ok (.iconst 0, 1) := by decide +kernel
theorem d5_14 : decode prog_14_method_5_code 14 = .ok (.ireturn, 1) := by decide +kernel
theorem pd5_0 : parseMethodDescriptor "(I)I" = some ⟨[.int], some .int⟩ := by decide +kernel
theorem pf5 : plainFor (⟨"com/example/chronoquorum/chronoquorum/LiveNodes", "contains", "(I)Z"⟩ : MethodName) = true := by decide +kernel
set_option maxHeartbeats 4000000 in
theorem ef5 (m : MethodId) (a : Addr) (q1 : Int32) : entryFrame m #[(.ref a), (.int q1)] 2 = (mkF m 0 #[.val (.ref a), .val (.int q1)] []) := by first | (simp [entryFrame, mkF, argsToLocals, Value.category, maxLocals]; done) | rfl
def Q5 (Z : State) (a : Addr) (q1 : Int32) (ap : Addr) (la : Int32) (nP : Nat) (P : Nat → Int32) (h0 : Heap) (n0 : Nat) (v : Option Value) (h : Heap) (L : List Loc) : Prop := (∃ r : Int32, v = some (.int r) ∧ (r.toInt = 1 ∧ (1 ≤ q1.toInt ∧ q1.toInt ≤ la.toInt ∧ ¬ own_G P q1.toInt = -1) ∨ r.toInt = 0 ∧ ¬ (1 ≤ q1.toInt ∧ q1.toInt ≤ la.toInt ∧ ¬ own_G P q1.toInt = -1))) ∧ Fr n0 L ∧ h = h0
set_option maxRecDepth 65536 in
set_option maxHeartbeats 40000000 in
theorem rm5 (l : Launch) (Z : State) (a0 : Array Value) (hw : ∀ d ∈ tables_1, d.before a0 Z = true) (ws : List Jvm.Cond) (a : Addr) (q1 : Int32) (ap : Addr) (la : Int32) (nP : Nat) (P : Nat → Int32) (h0 : Heap) (n0 : Nat) (Z0 : n0 ≤ h0.size) (E_a : Exa Z h0 a "com/example/chronoquorum/chronoquorum/LiveNodes") (F_positions_a : Fld Z h0 a "com/example/chronoquorum/chronoquorum/LiveNodes" "positions" "[I" (.ref ap)) (F_lastId_a : Fld Z h0 a "com/example/chronoquorum/chronoquorum/LiveNodes" "lastId" "I" (.int la)) (A_ap : own_AI Z h0 ap .int nP P) (hp : la.toInt < nP) :
    MetFree l (⟨"com/example/chronoquorum/chronoquorum/LiveNodes", "contains", "(I)Z"⟩ : MethodName) (head1 (Jvm.Cond.code (⟨"com/example/chronoquorum/chronoquorum/LiveNodes", "contains", "(I)Z"⟩ : MethodName) prog_14_method_5_code 2 (some Jvm.ClassFile.FieldType.boolean) :: ws) ({ frames := 1, cells := 0, slots := 0, locals := 13 } : Room)) (fun aa U => aa = #[(.ref a), (.int q1)] ∧ Z.Warmed39 U.vm ∧ U.heap = h0) (fun _ _ _ _ _ => True) (fun _ U o U' => ∃ v L, o = .returned v ∧ Q5 Z a q1 ap la nP P h0 n0 v U'.heap L ∧ FrameEnd U o U' L ({ frames := 1, cells := 0, slots := 0, locals := 13 } : Room).cells ({ frames := 1, cells := 0, slots := 0, locals := 13 } : Room).slots) := by
  refine own_met pf5 ?_
  intro p e s m below meth c T0 hx hby hml hown hret hlk hnm hZ X0 e0
  have N0 := Fr.nil n0
  have r_q1 := rng32 q1
  rw [ef5]
  refine own_go (mkF m 1 #[.val (.ref a), .val (.int q1)] [(.ref a)]) (fun t k => XS.aloadN X0.here hx rfl (hb hby d5_0) rfl rfl k) ?_
  refine own_go (mkF m 2 #[.val (.ref a), .val (.int q1)] [(.int q1), (.ref a)]) (fun t k => XS.iloadN X0.here hx rfl (hb hby d5_1) rfl k) ?_
  refine own_callV X0 hx hZ (y := (⟨"com/example/chronoquorum/chronoquorum/LiveNodes", "positionOf", "(I)I"⟩ : MethodName)) hown (hw _ (List.mem_of_getElem? (i := 53) rfl)) (hw _ (List.mem_of_getElem? (i := 15) rfl)) (hw _ (List.mem_of_getElem? (i := 17) rfl)) (hw _ (List.mem_of_getElem? (i := 16) rfl)) (hw _ (List.mem_of_getElem? (i := 2) rfl)) (hw _ (List.mem_of_getElem? (i := 18) rfl)) (by decide) e0 a E_a (rm4 l Z a0 hw [] a q1 ap la nP P h0 n0 Z0 E_a F_positions_a F_lastId_a A_ap (by omega) ) 0 (by decide) (by decide) (by decide) (by decide) (g := (mkF m 2 #[.val (.ref a), .val (.int q1)] [(.int q1), (.ref a)])) rfl (by rw [hml]; rfl) [(.int q1)] [] (lenOf pd5_0 rfl) rfl rfl (by show 2 * 0 + _ ≤ _; exact Nat.le_of_eq rfl) (hb hby d5_2) ?_
  intro rv2 T2 h2 L2 X2 e2 hQ2
  obtain ⟨⟨rp2, rfl, hr2⟩, NQ2, eq2⟩ := hQ2
  rw [eq2] at e2
  have rr2 := rng32 rp2
  have N2 := Fr.app N0 NQ2
  show own_Ends p e below s ({ frames := 1, cells := 0, slots := 0, locals := 13 } : Room).cells ({ frames := 1, cells := 0, slots := 0, locals := 13 } : Room).slots (Q5 Z a q1 ap la nP P h0 n0) T2 (mkF m 5 #[.val (.ref a), .val (.int q1)] [(.int rp2)])
  refine own_go (mkF m 6 #[.val (.ref a), .val (.int q1)] [(.int (-1 : Int32)), (.int rp2)]) (fun t k => XS.iconst X2.here hx rfl (hb hby d5_5) k) ?_
  by_cases c6 : rp2.toInt = (-1)
  · skip
    refine own_go (mkF m 13 #[.val (.ref a), .val (.int q1)] []) (fun t k => XS.icmpYes X2.here hx rfl (pc0 := 6) (pc' := 13) rfl (hb hby d5_6) rfl (own_icT (cd := .eq) c6) (by decide) (by decide) k) ?_
    refine own_go (mkF m 14 #[.val (.ref a), .val (.int q1)] [(.int (0 : Int32))]) (fun t k => XS.iconst X2.here hx rfl (hb hby d5_13) k) ?_
    refine own_retI X2 hx hlk hret (by simp) rfl (hb hby d5_14) (by decide) (by decide) ?_
    rw [e2]
    exact ⟨⟨_, rfl, Or.inr ⟨rfl, by omega⟩⟩, N2, rfl⟩
  · skip
    refine own_go (mkF m 9 #[.val (.ref a), .val (.int q1)] []) (fun t k => XS.icmpNo X2.here hx rfl (hb hby d5_6) rfl (own_icF (cd := .eq) c6) k) ?_
    refine own_go (mkF m 10 #[.val (.ref a), .val (.int q1)] [(.int (1 : Int32))]) (fun t k => XS.iconst X2.here hx rfl (hb hby d5_9) k) ?_
    refine own_go (mkF m 14 #[.val (.ref a), .val (.int q1)] [(.int (1 : Int32))]) (fun t k => XS.goto X2.here hx rfl (pc0 := 10) (pc' := 14) rfl (hb hby d5_10) (by decide) (by decide) k) ?_
    refine own_retI X2 hx hlk hret (by simp) rfl (hb hby d5_14) (by decide) (by decide) ?_
    rw [e2]
    exact ⟨⟨_, rfl, Or.inl ⟨rfl, by omega⟩⟩, N2, rfl⟩
theorem d6_0 : decode prog_14_method_6_code 0 = .ok (.aload_n 0, 1) := by decide +kernel
theorem d6_1 : decode prog_14_method_6_code 1 = .ok (.iload_n 1, 1) := by decide +kernel
theorem d6_2 : decode prog_14_method_6_code 2 = .ok (.invokevirtual 36, 3) := by decide +kernel
theorem d6_5 : decode prog_14_method_6_code 5 = .ok (.ifCond .ne 17, 3) := by decide +kernel
theorem d6_22 : decode prog_14_method_6_code 22 = .ok (.return_, 1) := by decide +kernel
theorem pd6_0 : parseMethodDescriptor "(I)Z" = some ⟨[.int], some .boolean⟩ := by decide +kernel
theorem pf6 : plainFor (⟨"com/example/chronoquorum/chronoquorum/LiveNodes", "requireLive", "(I)V"⟩ : MethodName) = true := by decide +kernel
set_option maxHeartbeats 4000000 in
theorem ef6 (m : MethodId) (a : Addr) (q1 : Int32) : entryFrame m #[(.ref a), (.int q1)] 2 = (mkF m 0 #[.val (.ref a), .val (.int q1)] []) := by first | (simp [entryFrame, mkF, argsToLocals, Value.category, maxLocals]; done) | rfl
def Q6 (Z : State) (a : Addr) (q1 : Int32) (ap : Addr) (la : Int32) (nP : Nat) (P : Nat → Int32) (h0 : Heap) (n0 : Nat) (v : Option Value) (h : Heap) (L : List Loc) : Prop := v = none ∧ Fr n0 L ∧ h = h0
set_option maxRecDepth 65536 in
set_option maxHeartbeats 40000000 in
theorem rm6 (l : Launch) (Z : State) (a0 : Array Value) (hw : ∀ d ∈ tables_1, d.before a0 Z = true) (ws : List Jvm.Cond) (a : Addr) (q1 : Int32) (ap : Addr) (la : Int32) (nP : Nat) (P : Nat → Int32) (h0 : Heap) (n0 : Nat) (Z0 : n0 ≤ h0.size) (E_a : Exa Z h0 a "com/example/chronoquorum/chronoquorum/LiveNodes") (F_positions_a : Fld Z h0 a "com/example/chronoquorum/chronoquorum/LiveNodes" "positions" "[I" (.ref ap)) (F_lastId_a : Fld Z h0 a "com/example/chronoquorum/chronoquorum/LiveNodes" "lastId" "I" (.int la)) (A_ap : own_AI Z h0 ap .int nP P) (hp : la.toInt < nP) (hlv : 1 ≤ q1.toInt ∧ q1.toInt ≤ la.toInt ∧ ¬ own_G P q1.toInt = -1) :
    MetFree l (⟨"com/example/chronoquorum/chronoquorum/LiveNodes", "requireLive", "(I)V"⟩ : MethodName) (head1 (Jvm.Cond.code (⟨"com/example/chronoquorum/chronoquorum/LiveNodes", "requireLive", "(I)V"⟩ : MethodName) prog_14_method_6_code 2 none :: ws) ({ frames := 2, cells := 0, slots := 0, locals := 26 } : Room)) (fun aa U => aa = #[(.ref a), (.int q1)] ∧ Z.Warmed39 U.vm ∧ U.heap = h0) (fun _ _ _ _ _ => True) (fun _ U o U' => ∃ v L, o = .returned v ∧ Q6 Z a q1 ap la nP P h0 n0 v U'.heap L ∧ FrameEnd U o U' L ({ frames := 2, cells := 0, slots := 0, locals := 26 } : Room).cells ({ frames := 2, cells := 0, slots := 0, locals := 26 } : Room).slots) := by
  refine own_met pf6 ?_
  intro p e s m below meth c T0 hx hby hml hown hret hlk hnm hZ X0 e0
  have N0 := Fr.nil n0
  have r_q1 := rng32 q1
  rw [ef6]
  refine own_go (mkF m 1 #[.val (.ref a), .val (.int q1)] [(.ref a)]) (fun t k => XS.aloadN X0.here hx rfl (hb hby d6_0) rfl rfl k) ?_
  refine own_go (mkF m 2 #[.val (.ref a), .val (.int q1)] [(.int q1), (.ref a)]) (fun t k => XS.iloadN X0.here hx rfl (hb hby d6_1) rfl k) ?_
  refine own_callV X0 hx hZ (y := (⟨"com/example/chronoquorum/chronoquorum/LiveNodes", "contains", "(I)Z"⟩ : MethodName)) hown (hw _ (List.mem_of_getElem? (i := 48) rfl)) (hw _ (List.mem_of_getElem? (i := 49) rfl)) (hw _ (List.mem_of_getElem? (i := 51) rfl)) (hw _ (List.mem_of_getElem? (i := 50) rfl)) (hw _ (List.mem_of_getElem? (i := 2) rfl)) (hw _ (List.mem_of_getElem? (i := 52) rfl)) (by decide) e0 a E_a (rm5 l Z a0 hw [] a q1 ap la nP P h0 n0 Z0 E_a F_positions_a F_lastId_a A_ap (by omega) ) 0 (by decide) (by decide) (by decide) (by decide) (g := (mkF m 2 #[.val (.ref a), .val (.int q1)] [(.int q1), (.ref a)])) rfl (by rw [hml]; rfl) [(.int q1)] [] (lenOf pd6_0 rfl) rfl rfl (by show 2 * 0 + _ ≤ _; exact Nat.le_of_eq rfl) (hb hby d6_2) ?_
  intro rv2 T2 h2 L2 X2 e2 hQ2
  obtain ⟨⟨rp2, rfl, hr2⟩, NQ2, eq2⟩ := hQ2
  rw [eq2] at e2
  have rr2 := rng32 rp2
  have N2 := Fr.app N0 NQ2
  show own_Ends p e below s ({ frames := 2, cells := 0, slots := 0, locals := 26 } : Room).cells ({ frames := 2, cells := 0, slots := 0, locals := 26 } : Room).slots (Q6 Z a q1 ap la nP P h0 n0) T2 (mkF m 5 #[.val (.ref a), .val (.int q1)] [(.int rp2)])
  have c5 : ¬ (rp2.toInt = 0) := by omega
  refine own_go (mkF m 22 #[.val (.ref a), .val (.int q1)] []) (fun t k => XS.ifYes X2.here hx rfl (pc0 := 5) (pc' := 22) rfl (hb hby d6_5) rfl (own_zT (cd := .ne) c5) (by decide) (by decide) k) ?_
  refine own_ret0 X2 hx hlk hret (hb hby d6_22) (by decide) (by decide) ?_
  rw [e2]
  exact ⟨rfl, N2, rfl⟩
theorem d8_0 : decode prog_14_method_8_code 0 = .ok (.aload_n 0, 1) := by decide +kernel
theorem d8_1 : decode prog_14_method_8_code 1 = .ok (.iload_n 1, 1) := by decide +kernel
theorem d8_2 : decode prog_14_method_8_code 2 = .ok (.invokevirtual 64, 3) := by decide +kernel
theorem d8_5 : decode prog_14_method_8_code 5 = .ok (.aload_n 0, 1) := by decide +kernel
theorem d8_6 : decode prog_14_method_8_code 6 = .ok (.getfield 13, 3) := by decide +kernel
theorem d8_9 : decode prog_14_method_8_code 9 = .ok (.iload_n 1, 1) := by decide +kernel
theorem d8_10 : decode prog_14_method_8_code 10 = .ok (.iaload, 1) := by decide +kernel
theorem d8_11 : decode prog_14_method_8_code 11 = .ok (.istore_n 2, 1) := by decide +kernel
theorem d8_12 : decode prog_14_method_8_code 12 = .ok (.aload_n 0, 1) := by decide +kernel
theorem d8_13 : decode prog_14_method_8_code 13 = .ok (.getfield 13, 3) := by decide +kernel
theorem d8_16 : decode prog_14_method_8_code 16 = .ok (.iload_n 1, 1) := by decide +kernel
theorem d8_17 : decode prog_14_method_8_code 17 = .ok (.iconst (-1), 1) := by decide +kernel
theorem d8_18 : decode prog_14_method_8_code 18 = .ok (.iastore, 1) := by decide +kernel
theorem d8_19 : decode prog_14_method_8_code 19 = .ok (.aload_n 0, 1) := by decide +kernel
theorem d8_20 : decode prog_14_method_8_code 20 = .ok (.dup, 1) := by decide +kernel
theorem d8_21 : decode prog_14_method_8_code 21 = .ok (.getfield 20, 3) := by decide +kernel
theorem d8_24 : decode prog_14_method_8_code 24 = .ok (.iconst 1, 1) := by decide +kernel
theorem d8_25 : decode prog_14_method_8_code 25 = .ok (.isub, 1) := by decide +kernel
theorem d8_26 : decode prog_14_method_8_code 26 = .ok (.putfield 20, 3) := by decide +kernel
theorem d8_29 : decode prog_14_method_8_code 29 = .ok (.iload_n 2, 1) := by decide +kernel
theorem d8_30 : decode prog_14_method_8_code 30 = .ok (.aload_n 0, 1) := by decide +kernel
theorem d8_31 : decode prog_14_method_8_code 31 = .ok (.getfield 20, 3) := by decide +kernel
theorem d8_34 : decode prog_14_method_8_code 34 = .ok (.if_icmp .eq 27, 3) := by decide +kernel
theorem d8_37 : decode prog_14_method_8_code 37 = .ok (.aload_n 0, 1) := by decide +kernel
theorem d8_38 : decode prog_14_method_8_code 38 = .ok (.getfield 7, 3) := by decide +kernel
theorem d8_41 : decode prog_14_method_8_code 41 = .ok (.aload_n 0, 1) := by decide +kernel
theorem d8_42 : decode prog_14_method_8_code 42 = .ok (.getfield 20, 3) := by decide +kernel
theorem d8_45 : decode prog_14_method_8_code 45 = .ok (.iaload, 1) := by decide +kernel
theorem d8_46 : decode prog_14_method_8_code 46 = .ok (.istore_n 3, 1) := by decide +kernel
theorem d8_47 : decode prog_14_method_8_code 47 = .ok (.aload_n 0, 1) := by decide +kernel
theorem d8_48 : decode prog_14_method_8_code 48 = .ok (.getfield 7, 3) := by decide +kernel
theorem d8_51 : decode prog_14_method_8_code 51 = .ok (.iload_n 2, 1) := by decide +kernel
theorem d8_52 : decode prog_14_method_8_code 52 = .ok (.iload_n 3, 1) := by decide +kernel
theorem d8_53 : decode prog_14_method_8_code 53 = .ok (.iastore, 1) := by decide +kernel
theorem d8_54 : decode prog_14_method_8_code 54 = .ok (.aload_n 0, 1) := by decide +kernel
theorem d8_55 : decode prog_14_method_8_code 55 = .ok (.getfield 13, 3) := by decide +kernel
theorem d8_58 : decode prog_14_method_8_code 58 = .ok (.iload_n 3, 1) := by decide +kernel
theorem d8_59 : decode prog_14_method_8_code 59 = .ok (.iload_n 2, 1) := by decide +kernel
theorem d8_60 : decode prog_14_method_8_code 60 = .ok (.iastore, 1) := by decide +kernel
theorem d8_61 : decode prog_14_method_8_code 61 = .ok (.return_, 1) := by decide +kernel
theorem pd8_0 : parseMethodDescriptor "(I)V" = some ⟨[.int], none⟩ := by decide +kernel
theorem pf8 : plainFor (⟨"com/example/chronoquorum/chronoquorum/LiveNodes", "leave", "(I)V"⟩ : MethodName) = true := by decide +kernel
set_option maxHeartbeats 4000000 in
theorem ef8 (m : MethodId) (a : Addr) (q1 : Int32) : entryFrame m #[(.ref a), (.int q1)] 4 = (mkF m 0 #[.val (.ref a), .val (.int q1), .unset, .unset] []) := by first | (simp [entryFrame, mkF, argsToLocals, Value.category, maxLocals]; done) | rfl
def Q8 (Z : State) (a : Addr) (q1 : Int32) (ai : Addr) (ap : Addr) (sz : Int32) (la : Int32) (nI : Nat) (nP : Nat) (I : Nat → Int32) (P : Nat → Int32) (h0 : Heap) (n0 : Nat) (v : Option Value) (h : Heap) (L : List Loc) : Prop := v = none ∧ Fr n0 L ∧ Keep h0 h [a, ai, ap] ∧ ∃ (sz' : Int32) (I' P' : Nat → Int32), Exa Z h a "com/example/chronoquorum/chronoquorum/LiveNodes" ∧ Fld Z h a "com/example/chronoquorum/chronoquorum/LiveNodes" "ids" "[I" (.ref ai) ∧ Fld Z h a "com/example/chronoquorum/chronoquorum/LiveNodes" "positions" "[I" (.ref ap) ∧ Fld Z h a "com/example/chronoquorum/chronoquorum/LiveNodes" "size" "I" (.int sz') ∧ Fld Z h a "com/example/chronoquorum/chronoquorum/LiveNodes" "lastId" "I" (.int la) ∧ own_AI Z h ai .int nI I' ∧ own_AI Z h ap .int nP P' ∧ sz'.toInt = sz.toInt - 1 ∧ own_lv sz.toInt la.toInt q1.toInt I P I' P'
set_option maxRecDepth 65536 in
set_option maxHeartbeats 40000000 in
theorem rm8 (l : Launch) (Z : State) (a0 : Array Value) (hw : ∀ d ∈ tables_1, d.before a0 Z = true) (ws : List Jvm.Cond) (a : Addr) (q1 : Int32) (ai : Addr) (ap : Addr) (sz : Int32) (la : Int32) (nI : Nat) (nP : Nat) (I : Nat → Int32) (P : Nat → Int32) (h0 : Heap) (n0 : Nat) (Z0 : n0 ≤ h0.size) (E_a : Exa Z h0 a "com/example/chronoquorum/chronoquorum/LiveNodes") (F_ids_a : Fld Z h0 a "com/example/chronoquorum/chronoquorum/LiveNodes" "ids" "[I" (.ref ai)) (F_positions_a : Fld Z h0 a "com/example/chronoquorum/chronoquorum/LiveNodes" "positions" "[I" (.ref ap)) (F_size_a : Fld Z h0 a "com/example/chronoquorum/chronoquorum/LiveNodes" "size" "I" (.int sz)) (F_lastId_a : Fld Z h0 a "com/example/chronoquorum/chronoquorum/LiveNodes" "lastId" "I" (.int la)) (A_ai : own_AI Z h0 ai .int nI I) (A_ap : own_AI Z h0 ap .int nP P) (g_a : n0 ≤ a) (g_ai : n0 ≤ ai) (g_ap : n0 ≤ ap) (ne_a_ai : a ≠ ai) (ne_a_ap : a ≠ ap) (ne_ai_ap : ai ≠ ap) (hp : la.toInt < nP) (hlv : 1 ≤ q1.toInt ∧ q1.toInt ≤ la.toInt ∧ ¬ own_G P q1.toInt = -1) (hq : 1 ≤ sz.toInt ∧ sz.toInt ≤ nI ∧ 0 ≤ own_G P q1.toInt ∧ own_G P q1.toInt < sz.toInt ∧ 1 ≤ own_G I (sz.toInt - 1) ∧ own_G I (sz.toInt - 1) ≤ la.toInt) :
    MetFree l (⟨"com/example/chronoquorum/chronoquorum/LiveNodes", "leave", "(I)V"⟩ : MethodName) (head1 (Jvm.Cond.code (⟨"com/example/chronoquorum/chronoquorum/LiveNodes", "leave", "(I)V"⟩ : MethodName) prog_14_method_8_code 4 none :: ws) ({ frames := 3, cells := 0, slots := 0, locals := 40 } : Room)) (fun aa U => aa = #[(.ref a), (.int q1)] ∧ Z.Warmed39 U.vm ∧ U.heap = h0) (fun _ _ _ _ _ => True) (fun _ U o U' => ∃ v L, o = .returned v ∧ Q8 Z a q1 ai ap sz la nI nP I P h0 n0 v U'.heap L ∧ FrameEnd U o U' L ({ frames := 3, cells := 0, slots := 0, locals := 40 } : Room).cells ({ frames := 3, cells := 0, slots := 0, locals := 40 } : Room).slots) := by
  refine own_met pf8 ?_
  intro p e s m below meth c T0 hx hby hml hown hret hlk hnm hZ X0 e0
  have N0 := Fr.nil n0
  have K0 := Keep.refl h0 [a, ai, ap]
  have r_sz := rng32 sz
  have r_la := rng32 la
  have r_q1 := rng32 q1
  rw [ef8]
  refine own_go (mkF m 1 #[.val (.ref a), .val (.int q1), .unset, .unset] [(.ref a)]) (fun t k => XS.aloadN X0.here hx rfl (hb hby d8_0) rfl rfl k) ?_
  refine own_go (mkF m 2 #[.val (.ref a), .val (.int q1), .unset, .unset] [(.int q1), (.ref a)]) (fun t k => XS.iloadN X0.here hx rfl (hb hby d8_1) rfl k) ?_
  refine own_callV X0 hx hZ (y := (⟨"com/example/chronoquorum/chronoquorum/LiveNodes", "requireLive", "(I)V"⟩ : MethodName)) hown (hw _ (List.mem_of_getElem? (i := 43) rfl)) (hw _ (List.mem_of_getElem? (i := 44) rfl)) (hw _ (List.mem_of_getElem? (i := 46) rfl)) (hw _ (List.mem_of_getElem? (i := 45) rfl)) (hw _ (List.mem_of_getElem? (i := 2) rfl)) (hw _ (List.mem_of_getElem? (i := 47) rfl)) (by decide) e0 a E_a (rm6 l Z a0 hw [] a q1 ap la nP P h0 n0 Z0 E_a F_positions_a F_lastId_a A_ap (by omega) hlv) 0 (by decide) (by decide) (by decide) (by decide) (g := (mkF m 2 #[.val (.ref a), .val (.int q1), .unset, .unset] [(.int q1), (.ref a)])) rfl (by rw [hml]; rfl) [(.int q1)] [] (lenOf pd8_0 rfl) rfl rfl (by show 2 * 0 + _ ≤ _; exact Nat.le_of_eq rfl) (hb hby d8_2) ?_
  intro rv2 T2 h2 L2 X2 e2 hQ2
  obtain ⟨rfl, NQ2, eq2⟩ := hQ2
  rw [eq2] at e2
  have N2 := Fr.app N0 NQ2
  show own_Ends p e below s ({ frames := 3, cells := 0, slots := 0, locals := 40 } : Room).cells ({ frames := 3, cells := 0, slots := 0, locals := 40 } : Room).slots (Q8 Z a q1 ai ap sz la nI nP I P h0 n0) T2 (mkF m 5 #[.val (.ref a), .val (.int q1), .unset, .unset] [])
  refine own_go (mkF m 6 #[.val (.ref a), .val (.int q1), .unset, .unset] [(.ref a)]) (fun t k => XS.aloadN X2.here hx rfl (hb hby d8_5) rfl rfl k) ?_
  obtain ⟨T6, X6, e6, st6⟩ := getF X2 hx hZ hown (host := "") (Or.inl (hw _ (List.mem_of_getElem? (i := 12) rfl))) Via.refl e2 F_positions_a (g := (mkF m 6 #[.val (.ref a), .val (.int q1), .unset, .unset] [(.ref a)])) rfl rfl (hb hby d8_6)
  refine own_go (T' := T6) (mkF m 9 #[.val (.ref a), .val (.int q1), .unset, .unset] [(.ref ap)]) st6 ?_
  refine own_go (mkF m 10 #[.val (.ref a), .val (.int q1), .unset, .unset] [(.int q1), (.ref ap)]) (fun t k => XS.iloadN X6.here hx rfl (hb hby d8_9) rfl k) ?_
  refine own_iaload X6 hx hZ e6 A_ap (j := q1) (by omega) (by omega) (g := (mkF m 10 #[.val (.ref a), .val (.int q1), .unset, .unset] [(.int q1), (.ref ap)])) rfl rfl (hb hby d8_10) ?_
  generalize hv10 : P q1.toInt.toNat = v10
  have r10 := rng32 v10
  show own_Ends p e below s ({ frames := 3, cells := 0, slots := 0, locals := 40 } : Room).cells ({ frames := 3, cells := 0, slots := 0, locals := 40 } : Room).slots (Q8 Z a q1 ai ap sz la nI nP I P h0 n0) T6 (mkF m 11 #[.val (.ref a), .val (.int q1), .unset, .unset] [(.int v10)])
  have e10 : v10.toInt = own_G P q1.toInt := by unfold own_G; rw [hv10]
  refine own_go (mkF m 12 #[.val (.ref a), .val (.int q1), .val (.int v10), .unset] []) (fun t k => XS.istoreN X6.here hx rfl (hb hby d8_11) rfl (l' := #[.val (.ref a), .val (.int q1), .val (.int v10), .unset]) rfl k) ?_
  refine own_go (mkF m 13 #[.val (.ref a), .val (.int q1), .val (.int v10), .unset] [(.ref a)]) (fun t k => XS.aloadN X6.here hx rfl (hb hby d8_12) rfl rfl k) ?_
  obtain ⟨T13, X13, e13, st13⟩ := getF X6 hx hZ hown (host := "") (Or.inl (hw _ (List.mem_of_getElem? (i := 12) rfl))) Via.refl e6 F_positions_a (g := (mkF m 13 #[.val (.ref a), .val (.int q1), .val (.int v10), .unset] [(.ref a)])) rfl rfl (hb hby d8_13)
  refine own_go (T' := T13) (mkF m 16 #[.val (.ref a), .val (.int q1), .val (.int v10), .unset] [(.ref ap)]) st13 ?_
  refine own_go (mkF m 17 #[.val (.ref a), .val (.int q1), .val (.int v10), .unset] [(.int q1), (.ref ap)]) (fun t k => XS.iloadN X13.here hx rfl (hb hby d8_16) rfl k) ?_
  refine own_go (mkF m 18 #[.val (.ref a), .val (.int q1), .val (.int v10), .unset] [(.int (-1 : Int32)), (.int q1), (.ref ap)]) (fun t k => XS.iconst X13.here hx rfl (hb hby d8_17) k) ?_
  refine own_iastore X13 hx hZ e13 A_ap (j := q1) (x := (-1 : Int32)) (by omega) (by omega) (g := (mkF m 18 #[.val (.ref a), .val (.int q1), .val (.int v10), .unset] [(.int (-1 : Int32)), (.int q1), (.ref ap)])) rfl rfl (hb hby d8_18) ?_
  intro T18 h18 F18 X18 e18 W18 hF18 A18
  have N18 := Fr.snoc X18 N2 g_ap
  have E_a_18 := E_a.wr W18
  have F_ids_a_18 := F_ids_a.other W18 (Or.inl ne_a_ap)
  have F_positions_a_18 := F_positions_a.other W18 (Or.inl ne_a_ap)
  have F_size_a_18 := F_size_a.other W18 (Or.inl ne_a_ap)
  have F_lastId_a_18 := F_lastId_a.other W18 (Or.inl ne_a_ap)
  have A_ai_18 := own_Av.other A_ai W18 ne_ai_ap
  have K0_18 := K0.wr W18 (Or.inl (by simp))
  have Z0_18 : n0 ≤ h18.size := by rw [W18.size]; exact Z0
  show own_Ends p e below s ({ frames := 3, cells := 0, slots := 0, locals := 40 } : Room).cells ({ frames := 3, cells := 0, slots := 0, locals := 40 } : Room).slots (Q8 Z a q1 ai ap sz la nI nP I P h0 n0) T18 (mkF m 19 #[.val (.ref a), .val (.int q1), .val (.int v10), .unset] [])
  refine own_go (mkF m 20 #[.val (.ref a), .val (.int q1), .val (.int v10), .unset] [(.ref a)]) (fun t k => XS.aloadN X18.here hx rfl (hb hby d8_19) rfl rfl k) ?_
  refine own_go (mkF m 21 #[.val (.ref a), .val (.int q1), .val (.int v10), .unset] [(.ref a), (.ref a)]) (fun t k => XS.dup X18.here hx rfl (hb hby d8_20) rfl rfl k) ?_
  obtain ⟨T21, X21, e21, st21⟩ := getF X18 hx hZ hown (host := "") (Or.inl (hw _ (List.mem_of_getElem? (i := 36) rfl))) Via.refl e18 F_size_a_18 (g := (mkF m 21 #[.val (.ref a), .val (.int q1), .val (.int v10), .unset] [(.ref a), (.ref a)])) rfl rfl (hb hby d8_21)
  refine own_go (T' := T21) (mkF m 24 #[.val (.ref a), .val (.int q1), .val (.int v10), .unset] [(.int sz), (.ref a)]) st21 ?_
  refine own_go (mkF m 25 #[.val (.ref a), .val (.int q1), .val (.int v10), .unset] [(.int (1 : Int32)), (.int sz), (.ref a)]) (fun t k => XS.iconst X21.here hx rfl (hb hby d8_24) k) ?_
  refine own_go (mkF m 26 #[.val (.ref a), .val (.int q1), .val (.int v10), .unset] [(.int (sz - (1 : Int32))), (.ref a)]) (fun t k => XS.isub X21.here hx rfl (hb hby d8_25) rfl k) ?_
  generalize hv25 : (sz - (1 : Int32)) = v25
  have f25 : (v25.toInt - (sz.toInt - 1)) % 4294967296 = 0 := by rw [← hv25]; exact c_isub sz (1 : Int32)
  have r25 := rng32 v25
  replace f25 : v25.toInt = sz.toInt - 1 := by omega
  obtain ⟨T26, h26, X26, e26, W26, st26⟩ := putF X21 hx hZ hown (host := "") (Or.inl (hw _ (List.mem_of_getElem? (i := 36) rfl))) Via.refl e21 F_size_a_18 E_a_18 (Or.inl (hw _ (List.mem_of_getElem? (i := 37) rfl))) (hw _ (List.mem_of_getElem? (i := 1) rfl)) (ty := .int) (by decide) rfl rfl (g := (mkF m 26 #[.val (.ref a), .val (.int q1), .val (.int v10), .unset] [(.int v25), (.ref a)])) rfl rfl (hb hby d8_26)
  have N26 := Fr.snoc X26 N18 g_a
  have E_a_26 := E_a_18.wr W26
  have F_ids_a_26 := F_ids_a_18.other W26 (Or.inr (slot_ne (Or.inl (hw _ (List.mem_of_getElem? (i := 11) rfl))) (Or.inl (hw _ (List.mem_of_getElem? (i := 37) rfl))) (by decide) (t := (.array .int)) (t' := .int) (by decide) (by decide)))
  have F_positions_a_26 := F_positions_a_18.other W26 (Or.inr (slot_ne (Or.inl (hw _ (List.mem_of_getElem? (i := 13) rfl))) (Or.inl (hw _ (List.mem_of_getElem? (i := 37) rfl))) (by decide) (t := (.array .int)) (t' := .int) (by decide) (by decide)))
  have F_size_a_26 := F_size_a_18.same W26
  have F_lastId_a_26 := F_lastId_a_18.other W26 (Or.inr (slot_ne (Or.inl (hw _ (List.mem_of_getElem? (i := 20) rfl))) (Or.inl (hw _ (List.mem_of_getElem? (i := 37) rfl))) (by decide) (t := .int) (t' := .int) (by decide) (by decide)))
  have A_ai_26 := own_Av.other A_ai_18 W26 (Ne.symm ne_a_ai)
  have K0_26 := K0_18.wr W26 (Or.inl (by simp))
  have Z0_26 : n0 ≤ h26.size := by rw [W26.size]; exact Z0_18
  have A18_26 := own_Av.other A18 W26 (Ne.symm ne_a_ap)
  refine own_go (T' := T26) (mkF m 29 #[.val (.ref a), .val (.int q1), .val (.int v10), .unset] []) st26 ?_
  refine own_go (mkF m 30 #[.val (.ref a), .val (.int q1), .val (.int v10), .unset] [(.int v10)]) (fun t k => XS.iloadN X26.here hx rfl (hb hby d8_29) rfl k) ?_
  refine own_go (mkF m 31 #[.val (.ref a), .val (.int q1), .val (.int v10), .unset] [(.ref a), (.int v10)]) (fun t k => XS.aloadN X26.here hx rfl (hb hby d8_30) rfl rfl k) ?_
  obtain ⟨T31, X31, e31, st31⟩ := getF X26 hx hZ hown (host := "") (Or.inl (hw _ (List.mem_of_getElem? (i := 36) rfl))) Via.refl e26 F_size_a_26 (g := (mkF m 31 #[.val (.ref a), .val (.int q1), .val (.int v10), .unset] [(.ref a), (.int v10)])) rfl rfl (hb hby d8_31)
  refine own_go (T' := T31) (mkF m 34 #[.val (.ref a), .val (.int q1), .val (.int v10), .unset] [(.int v25), (.int v10)]) st31 ?_
  by_cases c34 : v10.toInt = v25.toInt
  · skip
    refine own_go (mkF m 61 #[.val (.ref a), .val (.int q1), .val (.int v10), .unset] []) (fun t k => XS.icmpYes X31.here hx rfl (pc0 := 34) (pc' := 61) rfl (hb hby d8_34) rfl (own_icT (cd := .eq) c34) (by decide) (by decide) k) ?_
    refine own_ret0 X31 hx hlk hret (hb hby d8_61) (by decide) (by decide) ?_
    rw [e31]
    exact ⟨rfl, N26, K0_26, _, I, F18, E_a_26, F_ids_a_26, F_positions_a_26, F_size_a_26, F_lastId_a_26, A_ai_26, A18_26, f25, own_lv_last (by omega) (by omega) hF18 rfl⟩
  · skip
    refine own_go (mkF m 37 #[.val (.ref a), .val (.int q1), .val (.int v10), .unset] []) (fun t k => XS.icmpNo X31.here hx rfl (hb hby d8_34) rfl (own_icF (cd := .eq) c34) k) ?_
    refine own_go (mkF m 38 #[.val (.ref a), .val (.int q1), .val (.int v10), .unset] [(.ref a)]) (fun t k => XS.aloadN X31.here hx rfl (hb hby d8_37) rfl rfl k) ?_
    obtain ⟨T38, X38, e38, st38⟩ := getF X31 hx hZ hown (host := "") (Or.inl (hw _ (List.mem_of_getElem? (i := 10) rfl))) Via.refl e31 F_ids_a_26 (g := (mkF m 38 #[.val (.ref a), .val (.int q1), .val (.int v10), .unset] [(.ref a)])) rfl rfl (hb hby d8_38)
    refine own_go (T' := T38) (mkF m 41 #[.val (.ref a), .val (.int q1), .val (.int v10), .unset] [(.ref ai)]) st38 ?_
    refine own_go (mkF m 42 #[.val (.ref a), .val (.int q1), .val (.int v10), .unset] [(.ref a), (.ref ai)]) (fun t k => XS.aloadN X38.here hx rfl (hb hby d8_41) rfl rfl k) ?_
    obtain ⟨T42, X42, e42, st42⟩ := getF X38 hx hZ hown (host := "") (Or.inl (hw _ (List.mem_of_getElem? (i := 36) rfl))) Via.refl e38 F_size_a_26 (g := (mkF m 42 #[.val (.ref a), .val (.int q1), .val (.int v10), .unset] [(.ref a), (.ref ai)])) rfl rfl (hb hby d8_42)
    refine own_go (T' := T42) (mkF m 45 #[.val (.ref a), .val (.int q1), .val (.int v10), .unset] [(.int v25), (.ref ai)]) st42 ?_
    refine own_iaload X42 hx hZ e42 A_ai_26 (j := v25) (by omega) (by omega) (g := (mkF m 45 #[.val (.ref a), .val (.int q1), .val (.int v10), .unset] [(.int v25), (.ref ai)])) rfl rfl (hb hby d8_45) ?_
    generalize hv45 : I v25.toInt.toNat = v45
    have r45 := rng32 v45
    show own_Ends p e below s ({ frames := 3, cells := 0, slots := 0, locals := 40 } : Room).cells ({ frames := 3, cells := 0, slots := 0, locals := 40 } : Room).slots (Q8 Z a q1 ai ap sz la nI nP I P h0 n0) T42 (mkF m 46 #[.val (.ref a), .val (.int q1), .val (.int v10), .unset] [(.int v45)])
    have e45 : v45.toInt = own_G I (sz.toInt - 1) := by unfold own_G; rw [← hv45, f25]
    refine own_go (mkF m 47 #[.val (.ref a), .val (.int q1), .val (.int v10), .val (.int v45)] []) (fun t k => XS.istoreN X42.here hx rfl (hb hby d8_46) rfl (l' := #[.val (.ref a), .val (.int q1), .val (.int v10), .val (.int v45)]) rfl k) ?_
    refine own_go (mkF m 48 #[.val (.ref a), .val (.int q1), .val (.int v10), .val (.int v45)] [(.ref a)]) (fun t k => XS.aloadN X42.here hx rfl (hb hby d8_47) rfl rfl k) ?_
    obtain ⟨T48, X48, e48, st48⟩ := getF X42 hx hZ hown (host := "") (Or.inl (hw _ (List.mem_of_getElem? (i := 10) rfl))) Via.refl e42 F_ids_a_26 (g := (mkF m 48 #[.val (.ref a), .val (.int q1), .val (.int v10), .val (.int v45)] [(.ref a)])) rfl rfl (hb hby d8_48)
    refine own_go (T' := T48) (mkF m 51 #[.val (.ref a), .val (.int q1), .val (.int v10), .val (.int v45)] [(.ref ai)]) st48 ?_
    refine own_go (mkF m 52 #[.val (.ref a), .val (.int q1), .val (.int v10), .val (.int v45)] [(.int v10), (.ref ai)]) (fun t k => XS.iloadN X48.here hx rfl (hb hby d8_51) rfl k) ?_
    refine own_go (mkF m 53 #[.val (.ref a), .val (.int q1), .val (.int v10), .val (.int v45)] [(.int v45), (.int v10), (.ref ai)]) (fun t k => XS.iloadN X48.here hx rfl (hb hby d8_52) rfl k) ?_
    refine own_iastore X48 hx hZ e48 A_ai_26 (j := v10) (x := v45) (by omega) (by omega) (g := (mkF m 53 #[.val (.ref a), .val (.int q1), .val (.int v10), .val (.int v45)] [(.int v45), (.int v10), (.ref ai)])) rfl rfl (hb hby d8_53) ?_
    intro T53 h53 F53 X53 e53 W53 hF53 A53
    have N53 := Fr.snoc X53 N26 g_ai
    have E_a_53 := E_a_26.wr W53
    have F_ids_a_53 := F_ids_a_26.other W53 (Or.inl ne_a_ai)
    have F_positions_a_53 := F_positions_a_26.other W53 (Or.inl ne_a_ai)
    have F_size_a_53 := F_size_a_26.other W53 (Or.inl ne_a_ai)
    have F_lastId_a_53 := F_lastId_a_26.other W53 (Or.inl ne_a_ai)
    have K0_53 := K0_26.wr W53 (Or.inl (by simp))
    have Z0_53 : n0 ≤ h53.size := by rw [W53.size]; exact Z0_26
    have A18_53 := own_Av.other A18_26 W53 (Ne.symm ne_ai_ap)
    show own_Ends p e below s ({ frames := 3, cells := 0, slots := 0, locals := 40 } : Room).cells ({ frames := 3, cells := 0, slots := 0, locals := 40 } : Room).slots (Q8 Z a q1 ai ap sz la nI nP I P h0 n0) T53 (mkF m 54 #[.val (.ref a), .val (.int q1), .val (.int v10), .val (.int v45)] [])
    refine own_go (mkF m 55 #[.val (.ref a), .val (.int q1), .val (.int v10), .val (.int v45)] [(.ref a)]) (fun t k => XS.aloadN X53.here hx rfl (hb hby d8_54) rfl rfl k) ?_
    obtain ⟨T55, X55, e55, st55⟩ := getF X53 hx hZ hown (host := "") (Or.inl (hw _ (List.mem_of_getElem? (i := 12) rfl))) Via.refl e53 F_positions_a_53 (g := (mkF m 55 #[.val (.ref a), .val (.int q1), .val (.int v10), .val (.int v45)] [(.ref a)])) rfl rfl (hb hby d8_55)
    refine own_go (T' := T55) (mkF m 58 #[.val (.ref a), .val (.int q1), .val (.int v10), .val (.int v45)] [(.ref ap)]) st55 ?_
    refine own_go (mkF m 59 #[.val (.ref a), .val (.int q1), .val (.int v10), .val (.int v45)] [(.int v45), (.ref ap)]) (fun t k => XS.iloadN X55.here hx rfl (hb hby d8_58) rfl k) ?_
    refine own_go (mkF m 60 #[.val (.ref a), .val (.int q1), .val (.int v10), .val (.int v45)] [(.int v10), (.int v45), (.ref ap)]) (fun t k => XS.iloadN X55.here hx rfl (hb hby d8_59) rfl k) ?_
    refine own_iastore X55 hx hZ e55 A18_53 (j := v45) (x := v10) (by omega) (by omega) (g := (mkF m 60 #[.val (.ref a), .val (.int q1), .val (.int v10), .val (.int v45)] [(.int v10), (.int v45), (.ref ap)])) rfl rfl (hb hby d8_60) ?_
    intro T60 h60 F60 X60 e60 W60 hF60 A60
    have N60 := Fr.snoc X60 N53 g_ap
    have E_a_60 := E_a_53.wr W60
    have F_ids_a_60 := F_ids_a_53.other W60 (Or.inl ne_a_ap)
    have F_positions_a_60 := F_positions_a_53.other W60 (Or.inl ne_a_ap)
    have F_size_a_60 := F_size_a_53.other W60 (Or.inl ne_a_ap)
    have F_lastId_a_60 := F_lastId_a_53.other W60 (Or.inl ne_a_ap)
    have K0_60 := K0_53.wr W60 (Or.inl (by simp))
    have Z0_60 : n0 ≤ h60.size := by rw [W60.size]; exact Z0_53
    have A53_60 := own_Av.other A53 W60 ne_ai_ap
    show own_Ends p e below s ({ frames := 3, cells := 0, slots := 0, locals := 40 } : Room).cells ({ frames := 3, cells := 0, slots := 0, locals := 40 } : Room).slots (Q8 Z a q1 ai ap sz la nI nP I P h0 n0) T60 (mkF m 61 #[.val (.ref a), .val (.int q1), .val (.int v10), .val (.int v45)] [])
    refine own_ret0 X60 hx hlk hret (hb hby d8_61) (by decide) (by decide) ?_
    rw [e60]
    exact ⟨rfl, N60, K0_60, _, F53, F60, E_a_60, F_ids_a_60, F_positions_a_60, F_size_a_60, F_lastId_a_60, A53_60, A60, f25, own_lv_mid (by omega) (by omega) (by omega) (by omega) e10 e45 hF18 rfl hF53 hF60⟩
theorem own_inv_step {i : Int} {I P I' P' : Nat → Int32} (h : (∀ j : Int, 0 ≤ j → j < i → own_G I j = j + 1) ∧ (∀ x : Int, 1 ≤ x → x ≤ i → own_G P x = x - 1)) (hi : 0 ≤ i) (j : own_jn i i I P I' P') : (∀ j : Int, 0 ≤ j → j < i + 1 → own_G I' j = j + 1) ∧ (∀ x : Int, 1 ≤ x → x ≤ i + 1 → own_G P' x = x - 1) := by
  obtain ⟨b1, b2, b3, b4⟩ := j
  refine ⟨fun j h1 h2 => ?_, fun x h1 h2 => ?_⟩
  · by_cases q : j = i
    · rw [q, b2]
    · rw [b1 j h1 (by omega), h.1 j h1 (by omega)]
  · by_cases q : x = i + 1
    · rw [q, b4]; omega
    · rw [b3 x h1 (by omega), h.2 x h1 (by omega)]
theorem own_V_start {n : Int} {I P : Nat → Int32} (h0 : 0 ≤ n) (h : (∀ j : Int, 0 ≤ j → j < n → own_G I j = j + 1) ∧ (∀ x : Int, 1 ≤ x → x ≤ n → own_G P x = x - 1)) : own_V n n I P := by
  refine ⟨h0, h0, fun i h1 h2 => ?_, fun x h1 h2 _ => ?_⟩
  · rw [h.1 i h1 h2]; exact ⟨by omega, by omega, by rw [h.2 _ (by omega) (by omega)]; omega⟩
  · rw [h.2 x h1 h2]; exact ⟨by omega, by omega, by rw [h.1 _ (by omega) (by omega)]; omega⟩
theorem d1_0 : decode prog_14_method_1_code 0 = .ok (.aload_n 0, 1) := by decide +kernel
theorem d1_1 : decode prog_14_method_1_code 1 = .ok (.invokespecial 1, 3) := by decide +kernel
theorem d1_4 : decode prog_14_method_1_code 4 = .ok (.aload_n 0, 1) := by decide +kernel
theorem d1_5 : decode prog_14_method_1_code 5 = .ok (.iload_n 1, 1) := by decide +kernel
theorem d1_6 : decode prog_14_method_1_code 6 = .ok (.newarray .int, 2) := by decide +kernel
theorem d1_8 : decode prog_14_method_1_code 8 = .ok (.putfield 7, 3) := by decide +kernel
theorem d1_11 : decode prog_14_method_1_code 11 = .ok (.aload_n 0, 1) := by decide +kernel
theorem d1_12 : decode prog_14_method_1_code 12 = .ok (.iload_n 1, 1) := by decide +kernel
theorem d1_13 : decode prog_14_method_1_code 13 = .ok (.iconst 1, 1) := by decide +kernel
theorem d1_14 : decode prog_14_method_1_code 14 = .ok (.iadd, 1) := by decide +kernel
theorem d1_15 : decode prog_14_method_1_code 15 = .ok (.newarray .int, 2) := by decide +kernel
theorem d1_17 : decode prog_14_method_1_code 17 = .ok (.putfield 13, 3) := by decide +kernel
theorem d1_20 : decode prog_14_method_1_code 20 = .ok (.iconst 0, 1) := by decide +kernel
theorem d1_21 : decode prog_14_method_1_code 21 = .ok (.istore_n 2, 1) := by decide +kernel
theorem d1_22 : decode prog_14_method_1_code 22 = .ok (.iload_n 2, 1) := by decide +kernel
theorem d1_23 : decode prog_14_method_1_code 23 = .ok (.iload_n 1, 1) := by decide +kernel
theorem d1_24 : decode prog_14_method_1_code 24 = .ok (.if_icmp .ge 14, 3) := by decide +kernel
theorem d1_27 : decode prog_14_method_1_code 27 = .ok (.aload_n 0, 1) := by decide +kernel
theorem d1_28 : decode prog_14_method_1_code 28 = .ok (.invokevirtual 16, 3) := by decide +kernel
theorem d1_31 : decode prog_14_method_1_code 31 = .ok (.pop, 1) := by decide +kernel
theorem d1_32 : decode prog_14_method_1_code 32 = .ok (.iinc 2 1, 3) := by decide +kernel
theorem d1_35 : decode prog_14_method_1_code 35 = .ok (.goto (-13), 3) := by decide +kernel
theorem d1_38 : decode prog_14_method_1_code 38 = .ok (.return_, 1) := by decide +kernel
theorem pd1_0 : parseMethodDescriptor "()I" = some ⟨[], some .int⟩ := by decide +kernel
theorem pf1 : plainFor (⟨"com/example/chronoquorum/chronoquorum/LiveNodes", "<init>", "(I)V"⟩ : MethodName) = true := by decide +kernel
set_option maxHeartbeats 4000000 in
theorem ef1 (m : MethodId) (a : Addr) (q1 : Int32) : entryFrame m #[(.ref a), (.int q1)] 3 = (mkF m 0 #[.val (.ref a), .val (.int q1), .unset] []) := by first | (simp [entryFrame, mkF, argsToLocals, Value.category, maxLocals]; done) | rfl
def Q1 (Z : State) (a : Addr) (q1 : Int32) (h0 : Heap) (n0 : Nat) (v : Option Value) (h : Heap) (L : List Loc) : Prop := v = none ∧ Fr n0 L ∧ Keep h0 h [a] ∧ ∃ (ai ap : Addr) (sz la : Int32) (nI nP : Nat) (I P : Nat → Int32), Exa Z h a "com/example/chronoquorum/chronoquorum/LiveNodes" ∧ Fld Z h a "com/example/chronoquorum/chronoquorum/LiveNodes" "ids" "[I" (.ref ai) ∧ Fld Z h a "com/example/chronoquorum/chronoquorum/LiveNodes" "positions" "[I" (.ref ap) ∧ Fld Z h a "com/example/chronoquorum/chronoquorum/LiveNodes" "size" "I" (.int sz) ∧ Fld Z h a "com/example/chronoquorum/chronoquorum/LiveNodes" "lastId" "I" (.int la) ∧ own_AI Z h ai .int nI I ∧ own_AI Z h ap .int nP P ∧ n0 ≤ ai ∧ n0 ≤ ap ∧ a ≠ ai ∧ a ≠ ap ∧ ai ≠ ap ∧ sz.toInt = q1.toInt ∧ la.toInt = q1.toInt ∧ (nI : Int) = q1.toInt ∧ (nP : Int) = q1.toInt + 1 ∧ (∀ j : Int, 0 ≤ j → j < q1.toInt → own_G I j = j + 1) ∧ (∀ x : Int, 1 ≤ x → x ≤ q1.toInt → own_G P x = x - 1)
set_option maxRecDepth 65536 in
set_option maxHeartbeats 40000000 in
theorem rm1 (l : Launch) (Z : State) (a0 : Array Value) (hw : ∀ d ∈ tables_1, d.before a0 Z = true) (ws : List Jvm.Cond) (a : Addr) (q1 : Int32) (h0 : Heap) (n0 : Nat) (Z0 : n0 ≤ h0.size) (E_a : Exa Z h0 a "com/example/chronoquorum/chronoquorum/LiveNodes") (F_ids_a : Fld Z h0 a "com/example/chronoquorum/chronoquorum/LiveNodes" "ids" "[I" (.null)) (F_positions_a : Fld Z h0 a "com/example/chronoquorum/chronoquorum/LiveNodes" "positions" "[I" (.null)) (F_lastId_a : Fld Z h0 a "com/example/chronoquorum/chronoquorum/LiveNodes" "lastId" "I" (.int (0 : Int32))) (F_size_a : Fld Z h0 a "com/example/chronoquorum/chronoquorum/LiveNodes" "size" "I" (.int (0 : Int32))) (g_a : n0 ≤ a) (hp : 0 ≤ q1.toInt ∧ q1.toInt ≤ 7) :
    MetFree l (⟨"com/example/chronoquorum/chronoquorum/LiveNodes", "<init>", "(I)V"⟩ : MethodName) (head1 (Jvm.Cond.code (⟨"com/example/chronoquorum/chronoquorum/LiveNodes", "<init>", "(I)V"⟩ : MethodName) prog_14_method_1_code 3 none :: ws) ({ frames := 3, cells := 2, slots := 15, locals := 60 } : Room)) (fun aa U => aa = #[(.ref a), (.int q1)] ∧ Z.Warmed39 U.vm ∧ U.heap = h0) (fun _ _ _ _ _ => True) (fun _ U o U' => ∃ v L, o = .returned v ∧ Q1 Z a q1 h0 n0 v U'.heap L ∧ FrameEnd U o U' L ({ frames := 3, cells := 2, slots := 15, locals := 60 } : Room).cells ({ frames := 3, cells := 2, slots := 15, locals := 60 } : Room).slots) := by
  refine own_met pf1 ?_
  intro p e s m below meth c T0 hx hby hml hown hret hlk hnm hZ X0 e0
  have N0 := Fr.nil n0
  have K0 := Keep.refl h0 [a]
  have r_q1 := rng32 q1
  rw [ef1]
  refine own_go (mkF m 1 #[.val (.ref a), .val (.int q1), .unset] [(.ref a)]) (fun t k => XS.aloadN X0.here hx rfl (hb hby d1_0) rfl rfl k) ?_
  obtain ⟨T1, X1, e1, st1⟩ := initO X0 hx hZ hown (hw _ (List.mem_of_getElem? (i := 6) rfl)) (hw _ (List.mem_of_getElem? (i := 7) rfl)) (hw _ (List.mem_of_getElem? (i := 8) rfl)) e0 (g := (mkF m 1 #[.val (.ref a), .val (.int q1), .unset] [(.ref a)])) rfl (by rw [hml]; rfl) rfl (hb hby d1_1) (by decide) (W := 0) (by show 2 * 0 + _ ≤ _; exact Nat.le_of_eq rfl) (by decide)
  refine own_go (T' := T1) (mkF m 4 #[.val (.ref a), .val (.int q1), .unset] []) st1 ?_
  refine own_go (mkF m 5 #[.val (.ref a), .val (.int q1), .unset] [(.ref a)]) (fun t k => XS.aloadN X1.here hx rfl (hb hby d1_4) rfl rfl k) ?_
  refine own_go (mkF m 6 #[.val (.ref a), .val (.int q1), .unset] [(.int q1), (.ref a)]) (fun t k => XS.iloadN X1.here hx rfl (hb hby d1_5) rfl k) ?_
  refine own_newarr X1 hx hZ (hw _ (List.mem_of_getElem? (i := 9) rfl)) e1 (g := (mkF m 6 #[.val (.ref a), .val (.int q1), .unset] [(.int q1), (.ref a)])) rfl (hb hby d1_6) rfl (by omega) 7 (by omega) (by decide) (by decide) (by decide) ?_
  intro T6 h6 b6 X6 e6 E6 g6 A6
  have A6 : own_AI Z h6 b6 .int (q1.toInt.toNat) (fun _ => 0) := A6
  have gb6 : n0 ≤ b6 := Nat.le_trans Z0 (Nat.le_of_eq g6.symm)
  have ne_a_b6 : a ≠ b6 := fun q => Nat.lt_irrefl h0.size (by have := E_a.lt; rw [q, g6] at this; exact this)
  have E_a_6 := E_a.ext E6
  have K0_6 := K0.ext E6
  have F_ids_a_6 := F_ids_a.ext E6
  have F_positions_a_6 := F_positions_a.ext E6
  have F_lastId_a_6 := F_lastId_a.ext E6
  have F_size_a_6 := F_size_a.ext E6
  have Z0_6 : n0 ≤ h6.size := Nat.le_trans Z0 E6.1
  have in6 : b6 ∈ [a] ∨ h0.size ≤ b6 := Or.inr (Nat.le_trans K0.1 (Nat.le_of_eq g6.symm))
  show own_Ends p e below s ({ frames := 3, cells := 2, slots := 15, locals := 60 } : Room).cells ({ frames := 3, cells := 2, slots := 15, locals := 60 } : Room).slots (Q1 Z a q1 h0 n0) T6 (mkF m 8 #[.val (.ref a), .val (.int q1), .unset] [(.ref b6), (.ref a)])
  obtain ⟨T8, h8, X8, e8, W8, st8⟩ := putF X6 hx hZ hown (host := "") (Or.inl (hw _ (List.mem_of_getElem? (i := 10) rfl))) Via.refl e6 F_ids_a_6 E_a_6 (Or.inl (hw _ (List.mem_of_getElem? (i := 11) rfl))) (hw _ (List.mem_of_getElem? (i := 1) rfl)) (ty := (.array .int)) (by decide) rfl rfl (g := (mkF m 8 #[.val (.ref a), .val (.int q1), .unset] [(.ref b6), (.ref a)])) rfl rfl (hb hby d1_8)
  have N8 := Fr.snoc X8 N0 g_a
  have E_a_8 := E_a_6.wr W8
  have K0_8 := K0_6.wr W8 (Or.inl (List.mem_cons_self ..))
  have F_ids_a_8 := F_ids_a_6.same W8
  have F_positions_a_8 := F_positions_a_6.other W8 (Or.inr (slot_ne (Or.inl (hw _ (List.mem_of_getElem? (i := 13) rfl))) (Or.inl (hw _ (List.mem_of_getElem? (i := 11) rfl))) (by decide) (t := (.array .int)) (t' := (.array .int)) (by decide) (by decide)))
  have F_lastId_a_8 := F_lastId_a_6.other W8 (Or.inr (slot_ne (Or.inl (hw _ (List.mem_of_getElem? (i := 20) rfl))) (Or.inl (hw _ (List.mem_of_getElem? (i := 11) rfl))) (by decide) (t := .int) (t' := (.array .int)) (by decide) (by decide)))
  have F_size_a_8 := F_size_a_6.other W8 (Or.inr (slot_ne (Or.inl (hw _ (List.mem_of_getElem? (i := 37) rfl))) (Or.inl (hw _ (List.mem_of_getElem? (i := 11) rfl))) (by decide) (t := .int) (t' := (.array .int)) (by decide) (by decide)))
  have Z0_8 : n0 ≤ h8.size := by rw [W8.size]; exact Z0_6
  have A6_8 := own_Av.other A6 W8 (Ne.symm ne_a_b6)
  refine own_go (T' := T8) (mkF m 11 #[.val (.ref a), .val (.int q1), .unset] []) st8 ?_
  refine own_go (mkF m 12 #[.val (.ref a), .val (.int q1), .unset] [(.ref a)]) (fun t k => XS.aloadN X8.here hx rfl (hb hby d1_11) rfl rfl k) ?_
  refine own_go (mkF m 13 #[.val (.ref a), .val (.int q1), .unset] [(.int q1), (.ref a)]) (fun t k => XS.iloadN X8.here hx rfl (hb hby d1_12) rfl k) ?_
  refine own_go (mkF m 14 #[.val (.ref a), .val (.int q1), .unset] [(.int (1 : Int32)), (.int q1), (.ref a)]) (fun t k => XS.iconst X8.here hx rfl (hb hby d1_13) k) ?_
  refine own_go (mkF m 15 #[.val (.ref a), .val (.int q1), .unset] [(.int (q1 + (1 : Int32))), (.ref a)]) (fun t k => XS.iadd X8.here hx rfl (hb hby d1_14) rfl k) ?_
  generalize hv14 : (q1 + (1 : Int32)) = v14
  have f14 : (v14.toInt - (q1.toInt + 1)) % 4294967296 = 0 := by rw [← hv14]; exact c_iadd q1 (1 : Int32)
  have r14 := rng32 v14
  replace f14 : v14.toInt = q1.toInt + 1 := by omega
  refine own_newarr X8 hx hZ (hw _ (List.mem_of_getElem? (i := 9) rfl)) e8 (g := (mkF m 15 #[.val (.ref a), .val (.int q1), .unset] [(.int v14), (.ref a)])) rfl (hb hby d1_15) rfl (by omega) 8 (by omega) (by decide) (by decide) (by decide) ?_
  intro T15 h15 b15 X15 e15 E15 g15 A15
  have A15 : own_AI Z h15 b15 .int (v14.toInt.toNat) (fun _ => 0) := A15
  have gb15 : n0 ≤ b15 := Nat.le_trans Z0_8 (Nat.le_of_eq g15.symm)
  have ne_a_b15 : a ≠ b15 := fun q => Nat.lt_irrefl h8.size (by have := E_a_8.lt; rw [q, g15] at this; exact this)
  have ne_b6_b15 : b6 ≠ b15 := fun q => Nat.lt_irrefl h8.size (by have := own_Av.lt A6_8; rw [q, g15] at this; exact this)
  have E_a_15 := E_a_8.ext E15
  have K0_15 := K0_8.ext E15
  have F_ids_a_15 := F_ids_a_8.ext E15
  have F_positions_a_15 := F_positions_a_8.ext E15
  have F_lastId_a_15 := F_lastId_a_8.ext E15
  have F_size_a_15 := F_size_a_8.ext E15
  have Z0_15 : n0 ≤ h15.size := Nat.le_trans Z0_8 E15.1
  have A6_15 := own_Av.ext A6_8 E15
  have in15 : b15 ∈ [a] ∨ h0.size ≤ b15 := Or.inr (Nat.le_trans K0_8.1 (Nat.le_of_eq g15.symm))
  show own_Ends p e below s ({ frames := 3, cells := 2, slots := 15, locals := 60 } : Room).cells ({ frames := 3, cells := 2, slots := 15, locals := 60 } : Room).slots (Q1 Z a q1 h0 n0) T15 (mkF m 17 #[.val (.ref a), .val (.int q1), .unset] [(.ref b15), (.ref a)])
  obtain ⟨T17, h17, X17, e17, W17, st17⟩ := putF X15 hx hZ hown (host := "") (Or.inl (hw _ (List.mem_of_getElem? (i := 12) rfl))) Via.refl e15 F_positions_a_15 E_a_15 (Or.inl (hw _ (List.mem_of_getElem? (i := 13) rfl))) (hw _ (List.mem_of_getElem? (i := 1) rfl)) (ty := (.array .int)) (by decide) rfl rfl (g := (mkF m 17 #[.val (.ref a), .val (.int q1), .unset] [(.ref b15), (.ref a)])) rfl rfl (hb hby d1_17)
  have N17 := Fr.snoc X17 N8 g_a
  have E_a_17 := E_a_15.wr W17
  have K0_17 := K0_15.wr W17 (Or.inl (List.mem_cons_self ..))
  have F_ids_a_17 := F_ids_a_15.other W17 (Or.inr (slot_ne (Or.inl (hw _ (List.mem_of_getElem? (i := 11) rfl))) (Or.inl (hw _ (List.mem_of_getElem? (i := 13) rfl))) (by decide) (t := (.array .int)) (t' := (.array .int)) (by decide) (by decide)))
  have F_positions_a_17 := F_positions_a_15.same W17
  have F_lastId_a_17 := F_lastId_a_15.other W17 (Or.inr (slot_ne (Or.inl (hw _ (List.mem_of_getElem? (i := 20) rfl))) (Or.inl (hw _ (List.mem_of_getElem? (i := 13) rfl))) (by decide) (t := .int) (t' := (.array .int)) (by decide) (by decide)))
  have F_size_a_17 := F_size_a_15.other W17 (Or.inr (slot_ne (Or.inl (hw _ (List.mem_of_getElem? (i := 37) rfl))) (Or.inl (hw _ (List.mem_of_getElem? (i := 13) rfl))) (by decide) (t := .int) (t' := (.array .int)) (by decide) (by decide)))
  have Z0_17 : n0 ≤ h17.size := by rw [W17.size]; exact Z0_15
  have A6_17 := own_Av.other A6_15 W17 (Ne.symm ne_a_b6)
  have A15_17 := own_Av.other A15 W17 (Ne.symm ne_a_b15)
  refine own_go (T' := T17) (mkF m 20 #[.val (.ref a), .val (.int q1), .unset] []) st17 ?_
  refine own_go (mkF m 21 #[.val (.ref a), .val (.int q1), .unset] [(.int (0 : Int32))]) (fun t k => XS.iconst X17.here hx rfl (hb hby d1_20) k) ?_
  refine own_go (mkF m 22 #[.val (.ref a), .val (.int q1), .val (.int (0 : Int32))] []) (fun t k => XS.istoreN X17.here hx rfl (hb hby d1_21) rfl (l' := #[.val (.ref a), .val (.int q1), .val (.int (0 : Int32))]) rfl k) ?_
  have loop : ∀ (d : Nat) (i : Int32) (T : State) (h : Heap) (LL : List Loc) (sz la : Int32) (I P : Nat → Int32), i.toInt + d = q1.toInt → 0 ≤ i.toInt → sz.toInt = i.toInt → la.toInt = i.toInt → Stand p l e ({ frames := 3, cells := 2, slots := 15, locals := 60 } : Room) s m #[(.ref a), (.int q1)] below meth c T LL 2 15 → T.heap = h → Fr n0 LL → n0 ≤ h.size → Keep h0 h [a] → Exa Z h a "com/example/chronoquorum/chronoquorum/LiveNodes" → Fld Z h a "com/example/chronoquorum/chronoquorum/LiveNodes" "ids" "[I" (.ref b6) → Fld Z h a "com/example/chronoquorum/chronoquorum/LiveNodes" "positions" "[I" (.ref b15) → Fld Z h a "com/example/chronoquorum/chronoquorum/LiveNodes" "size" "I" (.int sz) → Fld Z h a "com/example/chronoquorum/chronoquorum/LiveNodes" "lastId" "I" (.int la) → own_AI Z h b6 .int q1.toInt.toNat I → own_AI Z h b15 .int v14.toInt.toNat P → (∀ j : Int, 0 ≤ j → j < i.toInt → own_G I j = j + 1) ∧ (∀ x : Int, 1 ≤ x → x ≤ i.toInt → own_G P x = x - 1) → own_Ends p e below s ({ frames := 3, cells := 2, slots := 15, locals := 60 } : Room).cells ({ frames := 3, cells := 2, slots := 15, locals := 60 } : Room).slots (Q1 Z a q1 h0 n0) T (mkF m 22 #[.val (.ref a), .val (.int q1), .val (.int i)] []) := by
    intro d
    induction d with
    | zero =>
      intro i T h LL sz la I P hd hi hsz hla X1 e1 N1 Z1 K1 E1 Fi Fp Fs Fl Ai Ap hinv
      have ri := rng32 i
      have rsz := rng32 sz
      have rla := rng32 la
      refine own_go (mkF m 23 #[.val (.ref a), .val (.int q1), .val (.int i)] [(.int i)]) (fun t k => XS.iloadN X1.here hx rfl (hb hby d1_22) rfl k) ?_
      refine own_go (mkF m 24 #[.val (.ref a), .val (.int q1), .val (.int i)] [(.int q1), (.int i)]) (fun t k => XS.iloadN X1.here hx rfl (hb hby d1_23) rfl k) ?_
      have c24 : q1.toInt ≤ i.toInt := by omega
      refine own_go (mkF m 38 #[.val (.ref a), .val (.int q1), .val (.int i)] []) (fun t k => XS.icmpYes X1.here hx rfl (pc0 := 24) (pc' := 38) rfl (hb hby d1_24) rfl (own_icT (cd := .ge) c24) (by decide) (by decide) k) ?_
      refine own_ret0 X1 hx hlk hret (hb hby d1_38) (by decide) (by decide) ?_
      rw [e1]
      have e9 : i.toInt = q1.toInt := by omega
      rw [e9] at hinv
      exact ⟨rfl, N1, K1, b6, b15, sz, la, _, _, I, P, E1, Fi, Fp, Fs, Fl, Ai, Ap, gb6, gb15, ne_a_b6, ne_a_b15, ne_b6_b15, by omega, by omega, by omega, by omega, hinv⟩
    | succ d ih =>
      intro i T h LL sz la I P hd hi hsz hla X1 e1 N1 Z1 K1 E1 Fi Fp Fs Fl Ai Ap hinv
      have ri := rng32 i
      have rsz := rng32 sz
      have rla := rng32 la
      refine own_go (mkF m 23 #[.val (.ref a), .val (.int q1), .val (.int i)] [(.int i)]) (fun t k => XS.iloadN X1.here hx rfl (hb hby d1_22) rfl k) ?_
      refine own_go (mkF m 24 #[.val (.ref a), .val (.int q1), .val (.int i)] [(.int q1), (.int i)]) (fun t k => XS.iloadN X1.here hx rfl (hb hby d1_23) rfl k) ?_
      have c24 : ¬ (q1.toInt ≤ i.toInt) := by omega
      refine own_go (mkF m 27 #[.val (.ref a), .val (.int q1), .val (.int i)] []) (fun t k => XS.icmpNo X1.here hx rfl (hb hby d1_24) rfl (own_icF (cd := .ge) c24) k) ?_
      refine own_go (mkF m 28 #[.val (.ref a), .val (.int q1), .val (.int i)] [(.ref a)]) (fun t k => XS.aloadN X1.here hx rfl (hb hby d1_27) rfl rfl k) ?_
      refine own_callV X1 hx hZ (y := (⟨"com/example/chronoquorum/chronoquorum/LiveNodes", "join", "()I"⟩ : MethodName)) hown (hw _ (List.mem_of_getElem? (i := 26) rfl)) (hw _ (List.mem_of_getElem? (i := 27) rfl)) (hw _ (List.mem_of_getElem? (i := 29) rfl)) (hw _ (List.mem_of_getElem? (i := 28) rfl)) (hw _ (List.mem_of_getElem? (i := 2) rfl)) (hw _ (List.mem_of_getElem? (i := 30) rfl)) (by decide) e1 a E1 (rmN l Z a0 hw [] a b6 b15 sz la (q1.toInt.toNat) (v14.toInt.toNat) I P q1 v14 h n0 Z1 E1 Fi Fp Fs Fl Ai Ap g_a gb6 gb15 ne_a_b6 ne_a_b15 ne_b6_b15 (by omega) (by omega) (by omega)) 0 (by decide) (by decide) (by decide) (by decide) (g := (mkF m 28 #[.val (.ref a), .val (.int q1), .val (.int i)] [(.ref a)])) rfl (by rw [hml]; rfl) [] [] (lenOf pd1_0 rfl) rfl rfl (by show 2 * 0 + _ ≤ _; exact Nat.le_of_eq rfl) (hb hby d1_28) ?_
      intro rv28 T28 h28 L28 X28 e28 hQ28
      obtain ⟨⟨rj, rfl, -⟩, NQ28, KQ28, sz', la', I', P', E2, Fi2, Fp2, Fs2, Fl2, Ai2, Ap2, hs2, hl2, hj2⟩ := hQ28
      have K2 := K1.trans KQ28 (allS (Or.inl (List.mem_cons_self ..)) (allS in6 (allS in15 all0)))
      have Z2 : n0 ≤ h28.size := Nat.le_trans Z1 KQ28.1
      have N28 := Fr.app N1 NQ28
      show own_Ends p e below s ({ frames := 3, cells := 2, slots := 15, locals := 60 } : Room).cells ({ frames := 3, cells := 2, slots := 15, locals := 60 } : Room).slots (Q1 Z a q1 h0 n0) T28 (mkF m 31 #[.val (.ref a), .val (.int q1), .val (.int i)] [(.int rj)])
      refine own_go (mkF m 32 #[.val (.ref a), .val (.int q1), .val (.int i)] []) (fun t k => XS.pop X28.here hx rfl (hb hby d1_31) rfl rfl k) ?_
      refine own_go (mkF m 35 #[.val (.ref a), .val (.int q1), .val (.int (i + (1 : Int32)))] []) (fun t k => XS.iinc X28.here hx rfl (hb hby d1_32) rfl (l' := #[.val (.ref a), .val (.int q1), .val (.int (i + (1 : Int32)))]) rfl k) ?_
      generalize hv32 : (i + (1 : Int32)) = v32
      have f32 : (v32.toInt - (i.toInt + 1)) % 4294967296 = 0 := by rw [← hv32]; exact c_iadd i (1 : Int32)
      have r32 := rng32 v32
      refine own_go (mkF m 22 #[.val (.ref a), .val (.int q1), .val (.int v32)] []) (fun t k => XS.goto X28.here hx rfl (pc0 := 35) (pc' := 22) rfl (hb hby d1_35) (by decide) (by decide) k) ?_
      have hi2 : v32.toInt = i.toInt + 1 := by omega
      exact ih v32 T28 h28 _ sz' la' I' P' (by omega) (by omega) (by omega) (by omega) X28 e28 N28 Z2 K2 E2 Fi2 Fp2 Fs2 Fl2 Ai2 Ap2 (by rw [hi2]; exact own_inv_step hinv (by omega) (by rw [hsz, hla] at hj2; exact hj2))
  exact loop q1.toInt.toNat 0 T17 h17 _ 0 0 (fun _ => 0) (fun _ => 0) (by show (0 : Int) + _ = _; omega) (by decide) rfl rfl X17 e17 N17 Z0_17 K0_17 E_a_17 F_ids_a_17 F_positions_a_17 F_size_a_17 F_lastId_a_17 A6_17 A15_17 ⟨fun j h1 h2 => absurd (show j < 0 from h2) (by omega), fun x h1 h2 => absurd (show x ≤ 0 from h2) (by omega)⟩
theorem dE_0 : decode method_3_code 0 = .ok (.iload 4, 2) := by decide +kernel
theorem dE_2 : decode method_3_code 2 = .ok (.ifCond .eq 9, 3) := by decide +kernel
theorem dE_5 : decode method_3_code 5 = .ok (.iload_n 1, 1) := by decide +kernel
theorem dE_6 : decode method_3_code 6 = .ok (.iconst 1, 1) := by decide +kernel
theorem dE_7 : decode method_3_code 7 = .ok (.iadd, 1) := by decide +kernel
theorem dE_8 : decode method_3_code 8 = .ok (.goto 4, 3) := by decide +kernel
theorem dE_11 : decode method_3_code 11 = .ok (.iload_n 1, 1) := by decide +kernel
theorem dE_12 : decode method_3_code 12 = .ok (.istore 5, 2) := by decide +kernel
theorem dE_14 : decode method_3_code 14 = .ok (.iload_n 0, 1) := by decide +kernel
theorem dE_15 : decode method_3_code 15 = .ok (.ifCond .le 9, 3) := by decide +kernel
theorem dE_18 : decode method_3_code 18 = .ok (.iload_n 0, 1) := by decide +kernel
theorem dE_19 : decode method_3_code 19 = .ok (.iload 5, 2) := by decide +kernel
theorem dE_21 : decode method_3_code 21 = .ok (.if_icmp .le 5, 3) := by decide +kernel
theorem dE_24 : decode method_3_code 24 = .ok (.iconst (-1), 1) := by decide +kernel
theorem dE_25 : decode method_3_code 25 = .ok (.ireturn, 1) := by decide +kernel
theorem dE_26 : decode method_3_code 26 = .ok (.iload_n 2, 1) := by decide +kernel
theorem dE_27 : decode method_3_code 27 = .ok (.ifCond .eq 10, 3) := by decide +kernel
theorem dE_30 : decode method_3_code 30 = .ok (.iload_n 0, 1) := by decide +kernel
theorem dE_31 : decode method_3_code 31 = .ok (.iload_n 3, 1) := by decide +kernel
theorem dE_32 : decode method_3_code 32 = .ok (.if_icmp .ne 5, 3) := by decide +kernel
theorem dE_35 : decode method_3_code 35 = .ok (.iconst (-1), 1) := by decide +kernel
theorem dE_36 : decode method_3_code 36 = .ok (.ireturn, 1) := by decide +kernel
theorem dE_37 : decode method_3_code 37 = .ok (.iload 4, 2) := by decide +kernel
theorem dE_39 : decode method_3_code 39 = .ok (.ifCond .eq 22, 3) := by decide +kernel
theorem dE_42 : decode method_3_code 42 = .ok (.iload_n 0, 1) := by decide +kernel
theorem dE_43 : decode method_3_code 43 = .ok (.iload_n 1, 1) := by decide +kernel
theorem dE_44 : decode method_3_code 44 = .ok (.iconst 1, 1) := by decide +kernel
theorem dE_45 : decode method_3_code 45 = .ok (.iadd, 1) := by decide +kernel
theorem dE_46 : decode method_3_code 46 = .ok (.if_icmp .ne 15, 3) := by decide +kernel
theorem dE_49 : decode method_3_code 49 = .ok (.iload_n 2, 1) := by decide +kernel
theorem dE_50 : decode method_3_code 50 = .ok (.ifCond .eq 9, 3) := by decide +kernel
theorem dE_53 : decode method_3_code 53 = .ok (.iload_n 1, 1) := by decide +kernel
theorem dE_54 : decode method_3_code 54 = .ok (.iconst 1, 1) := by decide +kernel
theorem dE_55 : decode method_3_code 55 = .ok (.isub, 1) := by decide +kernel
theorem dE_56 : decode method_3_code 56 = .ok (.goto 4, 3) := by decide +kernel
theorem dE_59 : decode method_3_code 59 = .ok (.iload_n 1, 1) := by decide +kernel
theorem dE_60 : decode method_3_code 60 = .ok (.ireturn, 1) := by decide +kernel
theorem dE_61 : decode method_3_code 61 = .ok (.iload_n 2, 1) := by decide +kernel
theorem dE_62 : decode method_3_code 62 = .ok (.ifCond .eq 12, 3) := by decide +kernel
theorem dE_65 : decode method_3_code 65 = .ok (.iload_n 0, 1) := by decide +kernel
theorem dE_66 : decode method_3_code 66 = .ok (.iload_n 1, 1) := by decide +kernel
theorem dE_67 : decode method_3_code 67 = .ok (.if_icmp .ne 7, 3) := by decide +kernel
theorem dE_70 : decode method_3_code 70 = .ok (.iload_n 3, 1) := by decide +kernel
theorem dE_71 : decode method_3_code 71 = .ok (.iconst 1, 1) := by decide +kernel
theorem dE_72 : decode method_3_code 72 = .ok (.isub, 1) := by decide +kernel
theorem dE_73 : decode method_3_code 73 = .ok (.ireturn, 1) := by decide +kernel
theorem dE_74 : decode method_3_code 74 = .ok (.iload_n 0, 1) := by decide +kernel
theorem dE_75 : decode method_3_code 75 = .ok (.iconst 1, 1) := by decide +kernel
theorem dE_76 : decode method_3_code 76 = .ok (.isub, 1) := by decide +kernel
theorem dE_77 : decode method_3_code 77 = .ok (.ireturn, 1) := by decide +kernel
theorem pfE : plainFor (⟨"com/example/chronoquorum/chronoquorum/LiveNodesPositionOfPinLaw", "expected", "(IIZIZ)I"⟩ : MethodName) = true := by decide +kernel
set_option maxHeartbeats 4000000 in
theorem efE (m : MethodId) (q1 : Int32) (q2 : Int32) (q3 : Int32) (q4 : Int32) (q5 : Int32) : entryFrame m #[(.int q1), (.int q2), (.int q3), (.int q4), (.int q5)] 6 = (mkF m 0 #[.val (.int q1), .val (.int q2), .val (.int q3), .val (.int q4), .val (.int q5), .unset] []) := by first | (simp [entryFrame, mkF, argsToLocals, Value.category, maxLocals]; done) | rfl
def QE (Z : State) (q1 : Int32) (q2 : Int32) (q3 : Int32) (q4 : Int32) (q5 : Int32) (h0 : Heap) (n0 : Nat) (v : Option Value) (h : Heap) (L : List Loc) : Prop := (∃ r : Int32, v = some (.int r) ∧ r.toInt = own_ex q1.toInt q2.toInt q3.toInt q4.toInt q5.toInt) ∧ Fr n0 L ∧ h = h0
set_option maxRecDepth 65536 in
set_option maxHeartbeats 40000000 in
theorem rmE (l : Launch) (Z : State) (a0 : Array Value) (hw : ∀ d ∈ tables_1, d.before a0 Z = true) (ws : List Jvm.Cond) (q1 : Int32) (q2 : Int32) (q3 : Int32) (q4 : Int32) (q5 : Int32) (h0 : Heap) (n0 : Nat) (Z0 : n0 ≤ h0.size) (hp : 0 ≤ q2.toInt ∧ q2.toInt ≤ 7 ∧ 0 ≤ q4.toInt ∧ q4.toInt ≤ 7) :
    MetFree l (⟨"com/example/chronoquorum/chronoquorum/LiveNodesPositionOfPinLaw", "expected", "(IIZIZ)I"⟩ : MethodName) (head1 (Jvm.Cond.code (⟨"com/example/chronoquorum/chronoquorum/LiveNodesPositionOfPinLaw", "expected", "(IIZIZ)I"⟩ : MethodName) method_3_code 6 (some Jvm.ClassFile.FieldType.int) :: ws) ({ frames := 0, cells := 0, slots := 0, locals := 0 } : Room)) (fun aa U => aa = #[(.int q1), (.int q2), (.int q3), (.int q4), (.int q5)] ∧ Z.Warmed39 U.vm ∧ U.heap = h0) (fun _ _ _ _ _ => True) (fun _ U o U' => ∃ v L, o = .returned v ∧ QE Z q1 q2 q3 q4 q5 h0 n0 v U'.heap L ∧ FrameEnd U o U' L ({ frames := 0, cells := 0, slots := 0, locals := 0 } : Room).cells ({ frames := 0, cells := 0, slots := 0, locals := 0 } : Room).slots) := by
  refine own_met pfE ?_
  intro p e s m below meth c T0 hx hby hml hown hret hlk hnm hZ X0 e0
  have N0 := Fr.nil n0
  have r_q1 := rng32 q1
  have r_q2 := rng32 q2
  have r_q3 := rng32 q3
  have r_q4 := rng32 q4
  have r_q5 := rng32 q5
  rw [efE]
  refine own_go (mkF m 2 #[.val (.int q1), .val (.int q2), .val (.int q3), .val (.int q4), .val (.int q5), .unset] [(.int q5)]) (fun t k => XS.iload X0.here hx rfl (hb hby dE_0) rfl k) ?_
  by_cases c2 : q5.toInt = 0
  · skip
    refine own_go (mkF m 11 #[.val (.int q1), .val (.int q2), .val (.int q3), .val (.int q4), .val (.int q5), .unset] []) (fun t k => XS.ifYes X0.here hx rfl (pc0 := 2) (pc' := 11) rfl (hb hby dE_2) rfl (own_zT (cd := .eq) c2) (by decide) (by decide) k) ?_
    refine own_go (mkF m 12 #[.val (.int q1), .val (.int q2), .val (.int q3), .val (.int q4), .val (.int q5), .unset] [(.int q2)]) (fun t k => XS.iloadN X0.here hx rfl (hb hby dE_11) rfl k) ?_
    refine own_go (mkF m 14 #[.val (.int q1), .val (.int q2), .val (.int q3), .val (.int q4), .val (.int q5), .val (.int q2)] []) (fun t k => XS.istore X0.here hx rfl (hb hby dE_12) rfl (l' := #[.val (.int q1), .val (.int q2), .val (.int q3), .val (.int q4), .val (.int q5), .val (.int q2)]) rfl k) ?_
    refine own_go (mkF m 15 #[.val (.int q1), .val (.int q2), .val (.int q3), .val (.int q4), .val (.int q5), .val (.int q2)] [(.int q1)]) (fun t k => XS.iloadN X0.here hx rfl (hb hby dE_14) rfl k) ?_
    by_cases c15 : q1.toInt ≤ 0
    · skip
      refine own_go (mkF m 24 #[.val (.int q1), .val (.int q2), .val (.int q3), .val (.int q4), .val (.int q5), .val (.int q2)] []) (fun t k => XS.ifYes X0.here hx rfl (pc0 := 15) (pc' := 24) rfl (hb hby dE_15) rfl (own_zT (cd := .le) c15) (by decide) (by decide) k) ?_
      refine own_go (mkF m 25 #[.val (.int q1), .val (.int q2), .val (.int q3), .val (.int q4), .val (.int q5), .val (.int q2)] [(.int (-1 : Int32))]) (fun t k => XS.iconst X0.here hx rfl (hb hby dE_24) k) ?_
      refine own_retI X0 hx hlk hret (by simp) rfl (hb hby dE_25) (by decide) (by decide) ?_
      rw [e0]
      refine ⟨⟨_, rfl, ?_⟩, N0, rfl⟩
      have lz : (-1 : Int32).toInt = -1 := rfl
      unfold own_ex
      repeat' split
      all_goals omega
    · skip
      refine own_go (mkF m 18 #[.val (.int q1), .val (.int q2), .val (.int q3), .val (.int q4), .val (.int q5), .val (.int q2)] []) (fun t k => XS.ifNo X0.here hx rfl (hb hby dE_15) rfl (own_zF (cd := .le) c15) k) ?_
      refine own_go (mkF m 19 #[.val (.int q1), .val (.int q2), .val (.int q3), .val (.int q4), .val (.int q5), .val (.int q2)] [(.int q1)]) (fun t k => XS.iloadN X0.here hx rfl (hb hby dE_18) rfl k) ?_
      refine own_go (mkF m 21 #[.val (.int q1), .val (.int q2), .val (.int q3), .val (.int q4), .val (.int q5), .val (.int q2)] [(.int q2), (.int q1)]) (fun t k => XS.iload X0.here hx rfl (hb hby dE_19) rfl k) ?_
      by_cases c21 : q1.toInt ≤ q2.toInt
      · skip
        refine own_go (mkF m 26 #[.val (.int q1), .val (.int q2), .val (.int q3), .val (.int q4), .val (.int q5), .val (.int q2)] []) (fun t k => XS.icmpYes X0.here hx rfl (pc0 := 21) (pc' := 26) rfl (hb hby dE_21) rfl (own_icT (cd := .le) c21) (by decide) (by decide) k) ?_
        refine own_go (mkF m 27 #[.val (.int q1), .val (.int q2), .val (.int q3), .val (.int q4), .val (.int q5), .val (.int q2)] [(.int q3)]) (fun t k => XS.iloadN X0.here hx rfl (hb hby dE_26) rfl k) ?_
        by_cases c27 : q3.toInt = 0
        · skip
          refine own_go (mkF m 37 #[.val (.int q1), .val (.int q2), .val (.int q3), .val (.int q4), .val (.int q5), .val (.int q2)] []) (fun t k => XS.ifYes X0.here hx rfl (pc0 := 27) (pc' := 37) rfl (hb hby dE_27) rfl (own_zT (cd := .eq) c27) (by decide) (by decide) k) ?_
          refine own_go (mkF m 39 #[.val (.int q1), .val (.int q2), .val (.int q3), .val (.int q4), .val (.int q5), .val (.int q2)] [(.int q5)]) (fun t k => XS.iload X0.here hx rfl (hb hby dE_37) rfl k) ?_
          by_cases c39 : q5.toInt = 0
          · skip
            refine own_go (mkF m 61 #[.val (.int q1), .val (.int q2), .val (.int q3), .val (.int q4), .val (.int q5), .val (.int q2)] []) (fun t k => XS.ifYes X0.here hx rfl (pc0 := 39) (pc' := 61) rfl (hb hby dE_39) rfl (own_zT (cd := .eq) c39) (by decide) (by decide) k) ?_
            refine own_go (mkF m 62 #[.val (.int q1), .val (.int q2), .val (.int q3), .val (.int q4), .val (.int q5), .val (.int q2)] [(.int q3)]) (fun t k => XS.iloadN X0.here hx rfl (hb hby dE_61) rfl k) ?_
            by_cases c62 : q3.toInt = 0
            · skip
              refine own_go (mkF m 74 #[.val (.int q1), .val (.int q2), .val (.int q3), .val (.int q4), .val (.int q5), .val (.int q2)] []) (fun t k => XS.ifYes X0.here hx rfl (pc0 := 62) (pc' := 74) rfl (hb hby dE_62) rfl (own_zT (cd := .eq) c62) (by decide) (by decide) k) ?_
              refine own_go (mkF m 75 #[.val (.int q1), .val (.int q2), .val (.int q3), .val (.int q4), .val (.int q5), .val (.int q2)] [(.int q1)]) (fun t k => XS.iloadN X0.here hx rfl (hb hby dE_74) rfl k) ?_
              refine own_go (mkF m 76 #[.val (.int q1), .val (.int q2), .val (.int q3), .val (.int q4), .val (.int q5), .val (.int q2)] [(.int (1 : Int32)), (.int q1)]) (fun t k => XS.iconst X0.here hx rfl (hb hby dE_75) k) ?_
              refine own_go (mkF m 77 #[.val (.int q1), .val (.int q2), .val (.int q3), .val (.int q4), .val (.int q5), .val (.int q2)] [(.int (q1 - (1 : Int32)))]) (fun t k => XS.isub X0.here hx rfl (hb hby dE_76) rfl k) ?_
              generalize hv76 : (q1 - (1 : Int32)) = v76
              have f76 : (v76.toInt - (q1.toInt - 1)) % 4294967296 = 0 := by rw [← hv76]; exact c_isub q1 (1 : Int32)
              have r76 := rng32 v76
              refine own_retI X0 hx hlk hret (by simp) rfl (hb hby dE_77) (by decide) (by decide) ?_
              rw [e0]
              refine ⟨⟨_, rfl, ?_⟩, N0, rfl⟩
              unfold own_ex
              repeat' split
              all_goals omega
            · skip
              refine own_go (mkF m 65 #[.val (.int q1), .val (.int q2), .val (.int q3), .val (.int q4), .val (.int q5), .val (.int q2)] []) (fun t k => XS.ifNo X0.here hx rfl (hb hby dE_62) rfl (own_zF (cd := .eq) c62) k) ?_
              refine own_go (mkF m 66 #[.val (.int q1), .val (.int q2), .val (.int q3), .val (.int q4), .val (.int q5), .val (.int q2)] [(.int q1)]) (fun t k => XS.iloadN X0.here hx rfl (hb hby dE_65) rfl k) ?_
              refine own_go (mkF m 67 #[.val (.int q1), .val (.int q2), .val (.int q3), .val (.int q4), .val (.int q5), .val (.int q2)] [(.int q2), (.int q1)]) (fun t k => XS.iloadN X0.here hx rfl (hb hby dE_66) rfl k) ?_
              by_cases c67 : q1.toInt = q2.toInt
              · skip
                refine own_go (mkF m 70 #[.val (.int q1), .val (.int q2), .val (.int q3), .val (.int q4), .val (.int q5), .val (.int q2)] []) (fun t k => XS.icmpNo X0.here hx rfl (hb hby dE_67) rfl (own_icF (cd := .ne) (fun q => q c67)) k) ?_
                refine own_go (mkF m 71 #[.val (.int q1), .val (.int q2), .val (.int q3), .val (.int q4), .val (.int q5), .val (.int q2)] [(.int q4)]) (fun t k => XS.iloadN X0.here hx rfl (hb hby dE_70) rfl k) ?_
                refine own_go (mkF m 72 #[.val (.int q1), .val (.int q2), .val (.int q3), .val (.int q4), .val (.int q5), .val (.int q2)] [(.int (1 : Int32)), (.int q4)]) (fun t k => XS.iconst X0.here hx rfl (hb hby dE_71) k) ?_
                refine own_go (mkF m 73 #[.val (.int q1), .val (.int q2), .val (.int q3), .val (.int q4), .val (.int q5), .val (.int q2)] [(.int (q4 - (1 : Int32)))]) (fun t k => XS.isub X0.here hx rfl (hb hby dE_72) rfl k) ?_
                generalize hv72 : (q4 - (1 : Int32)) = v72
                have f72 : (v72.toInt - (q4.toInt - 1)) % 4294967296 = 0 := by rw [← hv72]; exact c_isub q4 (1 : Int32)
                have r72 := rng32 v72
                refine own_retI X0 hx hlk hret (by simp) rfl (hb hby dE_73) (by decide) (by decide) ?_
                rw [e0]
                refine ⟨⟨_, rfl, ?_⟩, N0, rfl⟩
                unfold own_ex
                repeat' split
                all_goals omega
              · skip
                refine own_go (mkF m 74 #[.val (.int q1), .val (.int q2), .val (.int q3), .val (.int q4), .val (.int q5), .val (.int q2)] []) (fun t k => XS.icmpYes X0.here hx rfl (pc0 := 67) (pc' := 74) rfl (hb hby dE_67) rfl (own_icT (cd := .ne) c67) (by decide) (by decide) k) ?_
                refine own_go (mkF m 75 #[.val (.int q1), .val (.int q2), .val (.int q3), .val (.int q4), .val (.int q5), .val (.int q2)] [(.int q1)]) (fun t k => XS.iloadN X0.here hx rfl (hb hby dE_74) rfl k) ?_
                refine own_go (mkF m 76 #[.val (.int q1), .val (.int q2), .val (.int q3), .val (.int q4), .val (.int q5), .val (.int q2)] [(.int (1 : Int32)), (.int q1)]) (fun t k => XS.iconst X0.here hx rfl (hb hby dE_75) k) ?_
                refine own_go (mkF m 77 #[.val (.int q1), .val (.int q2), .val (.int q3), .val (.int q4), .val (.int q5), .val (.int q2)] [(.int (q1 - (1 : Int32)))]) (fun t k => XS.isub X0.here hx rfl (hb hby dE_76) rfl k) ?_
                generalize hv76 : (q1 - (1 : Int32)) = v76
                have f76 : (v76.toInt - (q1.toInt - 1)) % 4294967296 = 0 := by rw [← hv76]; exact c_isub q1 (1 : Int32)
                have r76 := rng32 v76
                refine own_retI X0 hx hlk hret (by simp) rfl (hb hby dE_77) (by decide) (by decide) ?_
                rw [e0]
                refine ⟨⟨_, rfl, ?_⟩, N0, rfl⟩
                unfold own_ex
                repeat' split
                all_goals omega
          · skip
            refine own_go (mkF m 42 #[.val (.int q1), .val (.int q2), .val (.int q3), .val (.int q4), .val (.int q5), .val (.int q2)] []) (fun t k => XS.ifNo X0.here hx rfl (hb hby dE_39) rfl (own_zF (cd := .eq) c39) k) ?_
            refine own_go (mkF m 43 #[.val (.int q1), .val (.int q2), .val (.int q3), .val (.int q4), .val (.int q5), .val (.int q2)] [(.int q1)]) (fun t k => XS.iloadN X0.here hx rfl (hb hby dE_42) rfl k) ?_
            refine own_go (mkF m 44 #[.val (.int q1), .val (.int q2), .val (.int q3), .val (.int q4), .val (.int q5), .val (.int q2)] [(.int q2), (.int q1)]) (fun t k => XS.iloadN X0.here hx rfl (hb hby dE_43) rfl k) ?_
            refine own_go (mkF m 45 #[.val (.int q1), .val (.int q2), .val (.int q3), .val (.int q4), .val (.int q5), .val (.int q2)] [(.int (1 : Int32)), (.int q2), (.int q1)]) (fun t k => XS.iconst X0.here hx rfl (hb hby dE_44) k) ?_
            refine own_go (mkF m 46 #[.val (.int q1), .val (.int q2), .val (.int q3), .val (.int q4), .val (.int q5), .val (.int q2)] [(.int (q2 + (1 : Int32))), (.int q1)]) (fun t k => XS.iadd X0.here hx rfl (hb hby dE_45) rfl k) ?_
            generalize hv45 : (q2 + (1 : Int32)) = v45
            have f45 : (v45.toInt - (q2.toInt + 1)) % 4294967296 = 0 := by rw [← hv45]; exact c_iadd q2 (1 : Int32)
            have r45 := rng32 v45
            by_cases c46 : q1.toInt = v45.toInt
            · skip
              refine own_go (mkF m 49 #[.val (.int q1), .val (.int q2), .val (.int q3), .val (.int q4), .val (.int q5), .val (.int q2)] []) (fun t k => XS.icmpNo X0.here hx rfl (hb hby dE_46) rfl (own_icF (cd := .ne) (fun q => q c46)) k) ?_
              refine own_go (mkF m 50 #[.val (.int q1), .val (.int q2), .val (.int q3), .val (.int q4), .val (.int q5), .val (.int q2)] [(.int q3)]) (fun t k => XS.iloadN X0.here hx rfl (hb hby dE_49) rfl k) ?_
              by_cases c50 : q3.toInt = 0
              · skip
                refine own_go (mkF m 59 #[.val (.int q1), .val (.int q2), .val (.int q3), .val (.int q4), .val (.int q5), .val (.int q2)] []) (fun t k => XS.ifYes X0.here hx rfl (pc0 := 50) (pc' := 59) rfl (hb hby dE_50) rfl (own_zT (cd := .eq) c50) (by decide) (by decide) k) ?_
                refine own_go (mkF m 60 #[.val (.int q1), .val (.int q2), .val (.int q3), .val (.int q4), .val (.int q5), .val (.int q2)] [(.int q2)]) (fun t k => XS.iloadN X0.here hx rfl (hb hby dE_59) rfl k) ?_
                refine own_retI X0 hx hlk hret (by simp) rfl (hb hby dE_60) (by decide) (by decide) ?_
                rw [e0]
                refine ⟨⟨_, rfl, ?_⟩, N0, rfl⟩
                unfold own_ex
                repeat' split
                all_goals omega
              · skip
                refine own_go (mkF m 53 #[.val (.int q1), .val (.int q2), .val (.int q3), .val (.int q4), .val (.int q5), .val (.int q2)] []) (fun t k => XS.ifNo X0.here hx rfl (hb hby dE_50) rfl (own_zF (cd := .eq) c50) k) ?_
                refine own_go (mkF m 54 #[.val (.int q1), .val (.int q2), .val (.int q3), .val (.int q4), .val (.int q5), .val (.int q2)] [(.int q2)]) (fun t k => XS.iloadN X0.here hx rfl (hb hby dE_53) rfl k) ?_
                refine own_go (mkF m 55 #[.val (.int q1), .val (.int q2), .val (.int q3), .val (.int q4), .val (.int q5), .val (.int q2)] [(.int (1 : Int32)), (.int q2)]) (fun t k => XS.iconst X0.here hx rfl (hb hby dE_54) k) ?_
                refine own_go (mkF m 56 #[.val (.int q1), .val (.int q2), .val (.int q3), .val (.int q4), .val (.int q5), .val (.int q2)] [(.int (q2 - (1 : Int32)))]) (fun t k => XS.isub X0.here hx rfl (hb hby dE_55) rfl k) ?_
                generalize hv55 : (q2 - (1 : Int32)) = v55
                have f55 : (v55.toInt - (q2.toInt - 1)) % 4294967296 = 0 := by rw [← hv55]; exact c_isub q2 (1 : Int32)
                have r55 := rng32 v55
                refine own_go (mkF m 60 #[.val (.int q1), .val (.int q2), .val (.int q3), .val (.int q4), .val (.int q5), .val (.int q2)] [(.int v55)]) (fun t k => XS.goto X0.here hx rfl (pc0 := 56) (pc' := 60) rfl (hb hby dE_56) (by decide) (by decide) k) ?_
                refine own_retI X0 hx hlk hret (by simp) rfl (hb hby dE_60) (by decide) (by decide) ?_
                rw [e0]
                refine ⟨⟨_, rfl, ?_⟩, N0, rfl⟩
                unfold own_ex
                repeat' split
                all_goals omega
            · skip
              refine own_go (mkF m 61 #[.val (.int q1), .val (.int q2), .val (.int q3), .val (.int q4), .val (.int q5), .val (.int q2)] []) (fun t k => XS.icmpYes X0.here hx rfl (pc0 := 46) (pc' := 61) rfl (hb hby dE_46) rfl (own_icT (cd := .ne) c46) (by decide) (by decide) k) ?_
              refine own_go (mkF m 62 #[.val (.int q1), .val (.int q2), .val (.int q3), .val (.int q4), .val (.int q5), .val (.int q2)] [(.int q3)]) (fun t k => XS.iloadN X0.here hx rfl (hb hby dE_61) rfl k) ?_
              by_cases c62 : q3.toInt = 0
              · skip
                refine own_go (mkF m 74 #[.val (.int q1), .val (.int q2), .val (.int q3), .val (.int q4), .val (.int q5), .val (.int q2)] []) (fun t k => XS.ifYes X0.here hx rfl (pc0 := 62) (pc' := 74) rfl (hb hby dE_62) rfl (own_zT (cd := .eq) c62) (by decide) (by decide) k) ?_
                refine own_go (mkF m 75 #[.val (.int q1), .val (.int q2), .val (.int q3), .val (.int q4), .val (.int q5), .val (.int q2)] [(.int q1)]) (fun t k => XS.iloadN X0.here hx rfl (hb hby dE_74) rfl k) ?_
                refine own_go (mkF m 76 #[.val (.int q1), .val (.int q2), .val (.int q3), .val (.int q4), .val (.int q5), .val (.int q2)] [(.int (1 : Int32)), (.int q1)]) (fun t k => XS.iconst X0.here hx rfl (hb hby dE_75) k) ?_
                refine own_go (mkF m 77 #[.val (.int q1), .val (.int q2), .val (.int q3), .val (.int q4), .val (.int q5), .val (.int q2)] [(.int (q1 - (1 : Int32)))]) (fun t k => XS.isub X0.here hx rfl (hb hby dE_76) rfl k) ?_
                generalize hv76 : (q1 - (1 : Int32)) = v76
                have f76 : (v76.toInt - (q1.toInt - 1)) % 4294967296 = 0 := by rw [← hv76]; exact c_isub q1 (1 : Int32)
                have r76 := rng32 v76
                refine own_retI X0 hx hlk hret (by simp) rfl (hb hby dE_77) (by decide) (by decide) ?_
                rw [e0]
                refine ⟨⟨_, rfl, ?_⟩, N0, rfl⟩
                unfold own_ex
                repeat' split
                all_goals omega
              · skip
                refine own_go (mkF m 65 #[.val (.int q1), .val (.int q2), .val (.int q3), .val (.int q4), .val (.int q5), .val (.int q2)] []) (fun t k => XS.ifNo X0.here hx rfl (hb hby dE_62) rfl (own_zF (cd := .eq) c62) k) ?_
                refine own_go (mkF m 66 #[.val (.int q1), .val (.int q2), .val (.int q3), .val (.int q4), .val (.int q5), .val (.int q2)] [(.int q1)]) (fun t k => XS.iloadN X0.here hx rfl (hb hby dE_65) rfl k) ?_
                refine own_go (mkF m 67 #[.val (.int q1), .val (.int q2), .val (.int q3), .val (.int q4), .val (.int q5), .val (.int q2)] [(.int q2), (.int q1)]) (fun t k => XS.iloadN X0.here hx rfl (hb hby dE_66) rfl k) ?_
                by_cases c67 : q1.toInt = q2.toInt
                · skip
                  refine own_go (mkF m 70 #[.val (.int q1), .val (.int q2), .val (.int q3), .val (.int q4), .val (.int q5), .val (.int q2)] []) (fun t k => XS.icmpNo X0.here hx rfl (hb hby dE_67) rfl (own_icF (cd := .ne) (fun q => q c67)) k) ?_
                  refine own_go (mkF m 71 #[.val (.int q1), .val (.int q2), .val (.int q3), .val (.int q4), .val (.int q5), .val (.int q2)] [(.int q4)]) (fun t k => XS.iloadN X0.here hx rfl (hb hby dE_70) rfl k) ?_
                  refine own_go (mkF m 72 #[.val (.int q1), .val (.int q2), .val (.int q3), .val (.int q4), .val (.int q5), .val (.int q2)] [(.int (1 : Int32)), (.int q4)]) (fun t k => XS.iconst X0.here hx rfl (hb hby dE_71) k) ?_
                  refine own_go (mkF m 73 #[.val (.int q1), .val (.int q2), .val (.int q3), .val (.int q4), .val (.int q5), .val (.int q2)] [(.int (q4 - (1 : Int32)))]) (fun t k => XS.isub X0.here hx rfl (hb hby dE_72) rfl k) ?_
                  generalize hv72 : (q4 - (1 : Int32)) = v72
                  have f72 : (v72.toInt - (q4.toInt - 1)) % 4294967296 = 0 := by rw [← hv72]; exact c_isub q4 (1 : Int32)
                  have r72 := rng32 v72
                  refine own_retI X0 hx hlk hret (by simp) rfl (hb hby dE_73) (by decide) (by decide) ?_
                  rw [e0]
                  refine ⟨⟨_, rfl, ?_⟩, N0, rfl⟩
                  unfold own_ex
                  repeat' split
                  all_goals omega
                · skip
                  refine own_go (mkF m 74 #[.val (.int q1), .val (.int q2), .val (.int q3), .val (.int q4), .val (.int q5), .val (.int q2)] []) (fun t k => XS.icmpYes X0.here hx rfl (pc0 := 67) (pc' := 74) rfl (hb hby dE_67) rfl (own_icT (cd := .ne) c67) (by decide) (by decide) k) ?_
                  refine own_go (mkF m 75 #[.val (.int q1), .val (.int q2), .val (.int q3), .val (.int q4), .val (.int q5), .val (.int q2)] [(.int q1)]) (fun t k => XS.iloadN X0.here hx rfl (hb hby dE_74) rfl k) ?_
                  refine own_go (mkF m 76 #[.val (.int q1), .val (.int q2), .val (.int q3), .val (.int q4), .val (.int q5), .val (.int q2)] [(.int (1 : Int32)), (.int q1)]) (fun t k => XS.iconst X0.here hx rfl (hb hby dE_75) k) ?_
                  refine own_go (mkF m 77 #[.val (.int q1), .val (.int q2), .val (.int q3), .val (.int q4), .val (.int q5), .val (.int q2)] [(.int (q1 - (1 : Int32)))]) (fun t k => XS.isub X0.here hx rfl (hb hby dE_76) rfl k) ?_
                  generalize hv76 : (q1 - (1 : Int32)) = v76
                  have f76 : (v76.toInt - (q1.toInt - 1)) % 4294967296 = 0 := by rw [← hv76]; exact c_isub q1 (1 : Int32)
                  have r76 := rng32 v76
                  refine own_retI X0 hx hlk hret (by simp) rfl (hb hby dE_77) (by decide) (by decide) ?_
                  rw [e0]
                  refine ⟨⟨_, rfl, ?_⟩, N0, rfl⟩
                  unfold own_ex
                  repeat' split
                  all_goals omega
        · skip
          refine own_go (mkF m 30 #[.val (.int q1), .val (.int q2), .val (.int q3), .val (.int q4), .val (.int q5), .val (.int q2)] []) (fun t k => XS.ifNo X0.here hx rfl (hb hby dE_27) rfl (own_zF (cd := .eq) c27) k) ?_
          refine own_go (mkF m 31 #[.val (.int q1), .val (.int q2), .val (.int q3), .val (.int q4), .val (.int q5), .val (.int q2)] [(.int q1)]) (fun t k => XS.iloadN X0.here hx rfl (hb hby dE_30) rfl k) ?_
          refine own_go (mkF m 32 #[.val (.int q1), .val (.int q2), .val (.int q3), .val (.int q4), .val (.int q5), .val (.int q2)] [(.int q4), (.int q1)]) (fun t k => XS.iloadN X0.here hx rfl (hb hby dE_31) rfl k) ?_
          by_cases c32 : q1.toInt = q4.toInt
          · skip
            refine own_go (mkF m 35 #[.val (.int q1), .val (.int q2), .val (.int q3), .val (.int q4), .val (.int q5), .val (.int q2)] []) (fun t k => XS.icmpNo X0.here hx rfl (hb hby dE_32) rfl (own_icF (cd := .ne) (fun q => q c32)) k) ?_
            refine own_go (mkF m 36 #[.val (.int q1), .val (.int q2), .val (.int q3), .val (.int q4), .val (.int q5), .val (.int q2)] [(.int (-1 : Int32))]) (fun t k => XS.iconst X0.here hx rfl (hb hby dE_35) k) ?_
            refine own_retI X0 hx hlk hret (by simp) rfl (hb hby dE_36) (by decide) (by decide) ?_
            rw [e0]
            refine ⟨⟨_, rfl, ?_⟩, N0, rfl⟩
            have lz : (-1 : Int32).toInt = -1 := rfl
            unfold own_ex
            repeat' split
            all_goals omega
          · skip
            refine own_go (mkF m 37 #[.val (.int q1), .val (.int q2), .val (.int q3), .val (.int q4), .val (.int q5), .val (.int q2)] []) (fun t k => XS.icmpYes X0.here hx rfl (pc0 := 32) (pc' := 37) rfl (hb hby dE_32) rfl (own_icT (cd := .ne) c32) (by decide) (by decide) k) ?_
            refine own_go (mkF m 39 #[.val (.int q1), .val (.int q2), .val (.int q3), .val (.int q4), .val (.int q5), .val (.int q2)] [(.int q5)]) (fun t k => XS.iload X0.here hx rfl (hb hby dE_37) rfl k) ?_
            by_cases c39 : q5.toInt = 0
            · skip
              refine own_go (mkF m 61 #[.val (.int q1), .val (.int q2), .val (.int q3), .val (.int q4), .val (.int q5), .val (.int q2)] []) (fun t k => XS.ifYes X0.here hx rfl (pc0 := 39) (pc' := 61) rfl (hb hby dE_39) rfl (own_zT (cd := .eq) c39) (by decide) (by decide) k) ?_
              refine own_go (mkF m 62 #[.val (.int q1), .val (.int q2), .val (.int q3), .val (.int q4), .val (.int q5), .val (.int q2)] [(.int q3)]) (fun t k => XS.iloadN X0.here hx rfl (hb hby dE_61) rfl k) ?_
              by_cases c62 : q3.toInt = 0
              · skip
                refine own_go (mkF m 74 #[.val (.int q1), .val (.int q2), .val (.int q3), .val (.int q4), .val (.int q5), .val (.int q2)] []) (fun t k => XS.ifYes X0.here hx rfl (pc0 := 62) (pc' := 74) rfl (hb hby dE_62) rfl (own_zT (cd := .eq) c62) (by decide) (by decide) k) ?_
                refine own_go (mkF m 75 #[.val (.int q1), .val (.int q2), .val (.int q3), .val (.int q4), .val (.int q5), .val (.int q2)] [(.int q1)]) (fun t k => XS.iloadN X0.here hx rfl (hb hby dE_74) rfl k) ?_
                refine own_go (mkF m 76 #[.val (.int q1), .val (.int q2), .val (.int q3), .val (.int q4), .val (.int q5), .val (.int q2)] [(.int (1 : Int32)), (.int q1)]) (fun t k => XS.iconst X0.here hx rfl (hb hby dE_75) k) ?_
                refine own_go (mkF m 77 #[.val (.int q1), .val (.int q2), .val (.int q3), .val (.int q4), .val (.int q5), .val (.int q2)] [(.int (q1 - (1 : Int32)))]) (fun t k => XS.isub X0.here hx rfl (hb hby dE_76) rfl k) ?_
                generalize hv76 : (q1 - (1 : Int32)) = v76
                have f76 : (v76.toInt - (q1.toInt - 1)) % 4294967296 = 0 := by rw [← hv76]; exact c_isub q1 (1 : Int32)
                have r76 := rng32 v76
                refine own_retI X0 hx hlk hret (by simp) rfl (hb hby dE_77) (by decide) (by decide) ?_
                rw [e0]
                refine ⟨⟨_, rfl, ?_⟩, N0, rfl⟩
                unfold own_ex
                repeat' split
                all_goals omega
              · skip
                refine own_go (mkF m 65 #[.val (.int q1), .val (.int q2), .val (.int q3), .val (.int q4), .val (.int q5), .val (.int q2)] []) (fun t k => XS.ifNo X0.here hx rfl (hb hby dE_62) rfl (own_zF (cd := .eq) c62) k) ?_
                refine own_go (mkF m 66 #[.val (.int q1), .val (.int q2), .val (.int q3), .val (.int q4), .val (.int q5), .val (.int q2)] [(.int q1)]) (fun t k => XS.iloadN X0.here hx rfl (hb hby dE_65) rfl k) ?_
                refine own_go (mkF m 67 #[.val (.int q1), .val (.int q2), .val (.int q3), .val (.int q4), .val (.int q5), .val (.int q2)] [(.int q2), (.int q1)]) (fun t k => XS.iloadN X0.here hx rfl (hb hby dE_66) rfl k) ?_
                by_cases c67 : q1.toInt = q2.toInt
                · skip
                  refine own_go (mkF m 70 #[.val (.int q1), .val (.int q2), .val (.int q3), .val (.int q4), .val (.int q5), .val (.int q2)] []) (fun t k => XS.icmpNo X0.here hx rfl (hb hby dE_67) rfl (own_icF (cd := .ne) (fun q => q c67)) k) ?_
                  refine own_go (mkF m 71 #[.val (.int q1), .val (.int q2), .val (.int q3), .val (.int q4), .val (.int q5), .val (.int q2)] [(.int q4)]) (fun t k => XS.iloadN X0.here hx rfl (hb hby dE_70) rfl k) ?_
                  refine own_go (mkF m 72 #[.val (.int q1), .val (.int q2), .val (.int q3), .val (.int q4), .val (.int q5), .val (.int q2)] [(.int (1 : Int32)), (.int q4)]) (fun t k => XS.iconst X0.here hx rfl (hb hby dE_71) k) ?_
                  refine own_go (mkF m 73 #[.val (.int q1), .val (.int q2), .val (.int q3), .val (.int q4), .val (.int q5), .val (.int q2)] [(.int (q4 - (1 : Int32)))]) (fun t k => XS.isub X0.here hx rfl (hb hby dE_72) rfl k) ?_
                  generalize hv72 : (q4 - (1 : Int32)) = v72
                  have f72 : (v72.toInt - (q4.toInt - 1)) % 4294967296 = 0 := by rw [← hv72]; exact c_isub q4 (1 : Int32)
                  have r72 := rng32 v72
                  refine own_retI X0 hx hlk hret (by simp) rfl (hb hby dE_73) (by decide) (by decide) ?_
                  rw [e0]
                  refine ⟨⟨_, rfl, ?_⟩, N0, rfl⟩
                  unfold own_ex
                  repeat' split
                  all_goals omega
                · skip
                  refine own_go (mkF m 74 #[.val (.int q1), .val (.int q2), .val (.int q3), .val (.int q4), .val (.int q5), .val (.int q2)] []) (fun t k => XS.icmpYes X0.here hx rfl (pc0 := 67) (pc' := 74) rfl (hb hby dE_67) rfl (own_icT (cd := .ne) c67) (by decide) (by decide) k) ?_
                  refine own_go (mkF m 75 #[.val (.int q1), .val (.int q2), .val (.int q3), .val (.int q4), .val (.int q5), .val (.int q2)] [(.int q1)]) (fun t k => XS.iloadN X0.here hx rfl (hb hby dE_74) rfl k) ?_
                  refine own_go (mkF m 76 #[.val (.int q1), .val (.int q2), .val (.int q3), .val (.int q4), .val (.int q5), .val (.int q2)] [(.int (1 : Int32)), (.int q1)]) (fun t k => XS.iconst X0.here hx rfl (hb hby dE_75) k) ?_
                  refine own_go (mkF m 77 #[.val (.int q1), .val (.int q2), .val (.int q3), .val (.int q4), .val (.int q5), .val (.int q2)] [(.int (q1 - (1 : Int32)))]) (fun t k => XS.isub X0.here hx rfl (hb hby dE_76) rfl k) ?_
                  generalize hv76 : (q1 - (1 : Int32)) = v76
                  have f76 : (v76.toInt - (q1.toInt - 1)) % 4294967296 = 0 := by rw [← hv76]; exact c_isub q1 (1 : Int32)
                  have r76 := rng32 v76
                  refine own_retI X0 hx hlk hret (by simp) rfl (hb hby dE_77) (by decide) (by decide) ?_
                  rw [e0]
                  refine ⟨⟨_, rfl, ?_⟩, N0, rfl⟩
                  unfold own_ex
                  repeat' split
                  all_goals omega
            · skip
              refine own_go (mkF m 42 #[.val (.int q1), .val (.int q2), .val (.int q3), .val (.int q4), .val (.int q5), .val (.int q2)] []) (fun t k => XS.ifNo X0.here hx rfl (hb hby dE_39) rfl (own_zF (cd := .eq) c39) k) ?_
              refine own_go (mkF m 43 #[.val (.int q1), .val (.int q2), .val (.int q3), .val (.int q4), .val (.int q5), .val (.int q2)] [(.int q1)]) (fun t k => XS.iloadN X0.here hx rfl (hb hby dE_42) rfl k) ?_
              refine own_go (mkF m 44 #[.val (.int q1), .val (.int q2), .val (.int q3), .val (.int q4), .val (.int q5), .val (.int q2)] [(.int q2), (.int q1)]) (fun t k => XS.iloadN X0.here hx rfl (hb hby dE_43) rfl k) ?_
              refine own_go (mkF m 45 #[.val (.int q1), .val (.int q2), .val (.int q3), .val (.int q4), .val (.int q5), .val (.int q2)] [(.int (1 : Int32)), (.int q2), (.int q1)]) (fun t k => XS.iconst X0.here hx rfl (hb hby dE_44) k) ?_
              refine own_go (mkF m 46 #[.val (.int q1), .val (.int q2), .val (.int q3), .val (.int q4), .val (.int q5), .val (.int q2)] [(.int (q2 + (1 : Int32))), (.int q1)]) (fun t k => XS.iadd X0.here hx rfl (hb hby dE_45) rfl k) ?_
              generalize hv45 : (q2 + (1 : Int32)) = v45
              have f45 : (v45.toInt - (q2.toInt + 1)) % 4294967296 = 0 := by rw [← hv45]; exact c_iadd q2 (1 : Int32)
              have r45 := rng32 v45
              by_cases c46 : q1.toInt = v45.toInt
              · skip
                refine own_go (mkF m 49 #[.val (.int q1), .val (.int q2), .val (.int q3), .val (.int q4), .val (.int q5), .val (.int q2)] []) (fun t k => XS.icmpNo X0.here hx rfl (hb hby dE_46) rfl (own_icF (cd := .ne) (fun q => q c46)) k) ?_
                refine own_go (mkF m 50 #[.val (.int q1), .val (.int q2), .val (.int q3), .val (.int q4), .val (.int q5), .val (.int q2)] [(.int q3)]) (fun t k => XS.iloadN X0.here hx rfl (hb hby dE_49) rfl k) ?_
                by_cases c50 : q3.toInt = 0
                · skip
                  refine own_go (mkF m 59 #[.val (.int q1), .val (.int q2), .val (.int q3), .val (.int q4), .val (.int q5), .val (.int q2)] []) (fun t k => XS.ifYes X0.here hx rfl (pc0 := 50) (pc' := 59) rfl (hb hby dE_50) rfl (own_zT (cd := .eq) c50) (by decide) (by decide) k) ?_
                  refine own_go (mkF m 60 #[.val (.int q1), .val (.int q2), .val (.int q3), .val (.int q4), .val (.int q5), .val (.int q2)] [(.int q2)]) (fun t k => XS.iloadN X0.here hx rfl (hb hby dE_59) rfl k) ?_
                  refine own_retI X0 hx hlk hret (by simp) rfl (hb hby dE_60) (by decide) (by decide) ?_
                  rw [e0]
                  refine ⟨⟨_, rfl, ?_⟩, N0, rfl⟩
                  unfold own_ex
                  repeat' split
                  all_goals omega
                · skip
                  refine own_go (mkF m 53 #[.val (.int q1), .val (.int q2), .val (.int q3), .val (.int q4), .val (.int q5), .val (.int q2)] []) (fun t k => XS.ifNo X0.here hx rfl (hb hby dE_50) rfl (own_zF (cd := .eq) c50) k) ?_
                  refine own_go (mkF m 54 #[.val (.int q1), .val (.int q2), .val (.int q3), .val (.int q4), .val (.int q5), .val (.int q2)] [(.int q2)]) (fun t k => XS.iloadN X0.here hx rfl (hb hby dE_53) rfl k) ?_
                  refine own_go (mkF m 55 #[.val (.int q1), .val (.int q2), .val (.int q3), .val (.int q4), .val (.int q5), .val (.int q2)] [(.int (1 : Int32)), (.int q2)]) (fun t k => XS.iconst X0.here hx rfl (hb hby dE_54) k) ?_
                  refine own_go (mkF m 56 #[.val (.int q1), .val (.int q2), .val (.int q3), .val (.int q4), .val (.int q5), .val (.int q2)] [(.int (q2 - (1 : Int32)))]) (fun t k => XS.isub X0.here hx rfl (hb hby dE_55) rfl k) ?_
                  generalize hv55 : (q2 - (1 : Int32)) = v55
                  have f55 : (v55.toInt - (q2.toInt - 1)) % 4294967296 = 0 := by rw [← hv55]; exact c_isub q2 (1 : Int32)
                  have r55 := rng32 v55
                  refine own_go (mkF m 60 #[.val (.int q1), .val (.int q2), .val (.int q3), .val (.int q4), .val (.int q5), .val (.int q2)] [(.int v55)]) (fun t k => XS.goto X0.here hx rfl (pc0 := 56) (pc' := 60) rfl (hb hby dE_56) (by decide) (by decide) k) ?_
                  refine own_retI X0 hx hlk hret (by simp) rfl (hb hby dE_60) (by decide) (by decide) ?_
                  rw [e0]
                  refine ⟨⟨_, rfl, ?_⟩, N0, rfl⟩
                  unfold own_ex
                  repeat' split
                  all_goals omega
              · skip
                refine own_go (mkF m 61 #[.val (.int q1), .val (.int q2), .val (.int q3), .val (.int q4), .val (.int q5), .val (.int q2)] []) (fun t k => XS.icmpYes X0.here hx rfl (pc0 := 46) (pc' := 61) rfl (hb hby dE_46) rfl (own_icT (cd := .ne) c46) (by decide) (by decide) k) ?_
                refine own_go (mkF m 62 #[.val (.int q1), .val (.int q2), .val (.int q3), .val (.int q4), .val (.int q5), .val (.int q2)] [(.int q3)]) (fun t k => XS.iloadN X0.here hx rfl (hb hby dE_61) rfl k) ?_
                by_cases c62 : q3.toInt = 0
                · skip
                  refine own_go (mkF m 74 #[.val (.int q1), .val (.int q2), .val (.int q3), .val (.int q4), .val (.int q5), .val (.int q2)] []) (fun t k => XS.ifYes X0.here hx rfl (pc0 := 62) (pc' := 74) rfl (hb hby dE_62) rfl (own_zT (cd := .eq) c62) (by decide) (by decide) k) ?_
                  refine own_go (mkF m 75 #[.val (.int q1), .val (.int q2), .val (.int q3), .val (.int q4), .val (.int q5), .val (.int q2)] [(.int q1)]) (fun t k => XS.iloadN X0.here hx rfl (hb hby dE_74) rfl k) ?_
                  refine own_go (mkF m 76 #[.val (.int q1), .val (.int q2), .val (.int q3), .val (.int q4), .val (.int q5), .val (.int q2)] [(.int (1 : Int32)), (.int q1)]) (fun t k => XS.iconst X0.here hx rfl (hb hby dE_75) k) ?_
                  refine own_go (mkF m 77 #[.val (.int q1), .val (.int q2), .val (.int q3), .val (.int q4), .val (.int q5), .val (.int q2)] [(.int (q1 - (1 : Int32)))]) (fun t k => XS.isub X0.here hx rfl (hb hby dE_76) rfl k) ?_
                  generalize hv76 : (q1 - (1 : Int32)) = v76
                  have f76 : (v76.toInt - (q1.toInt - 1)) % 4294967296 = 0 := by rw [← hv76]; exact c_isub q1 (1 : Int32)
                  have r76 := rng32 v76
                  refine own_retI X0 hx hlk hret (by simp) rfl (hb hby dE_77) (by decide) (by decide) ?_
                  rw [e0]
                  refine ⟨⟨_, rfl, ?_⟩, N0, rfl⟩
                  unfold own_ex
                  repeat' split
                  all_goals omega
                · skip
                  refine own_go (mkF m 65 #[.val (.int q1), .val (.int q2), .val (.int q3), .val (.int q4), .val (.int q5), .val (.int q2)] []) (fun t k => XS.ifNo X0.here hx rfl (hb hby dE_62) rfl (own_zF (cd := .eq) c62) k) ?_
                  refine own_go (mkF m 66 #[.val (.int q1), .val (.int q2), .val (.int q3), .val (.int q4), .val (.int q5), .val (.int q2)] [(.int q1)]) (fun t k => XS.iloadN X0.here hx rfl (hb hby dE_65) rfl k) ?_
                  refine own_go (mkF m 67 #[.val (.int q1), .val (.int q2), .val (.int q3), .val (.int q4), .val (.int q5), .val (.int q2)] [(.int q2), (.int q1)]) (fun t k => XS.iloadN X0.here hx rfl (hb hby dE_66) rfl k) ?_
                  by_cases c67 : q1.toInt = q2.toInt
                  · skip
                    refine own_go (mkF m 70 #[.val (.int q1), .val (.int q2), .val (.int q3), .val (.int q4), .val (.int q5), .val (.int q2)] []) (fun t k => XS.icmpNo X0.here hx rfl (hb hby dE_67) rfl (own_icF (cd := .ne) (fun q => q c67)) k) ?_
                    refine own_go (mkF m 71 #[.val (.int q1), .val (.int q2), .val (.int q3), .val (.int q4), .val (.int q5), .val (.int q2)] [(.int q4)]) (fun t k => XS.iloadN X0.here hx rfl (hb hby dE_70) rfl k) ?_
                    refine own_go (mkF m 72 #[.val (.int q1), .val (.int q2), .val (.int q3), .val (.int q4), .val (.int q5), .val (.int q2)] [(.int (1 : Int32)), (.int q4)]) (fun t k => XS.iconst X0.here hx rfl (hb hby dE_71) k) ?_
                    refine own_go (mkF m 73 #[.val (.int q1), .val (.int q2), .val (.int q3), .val (.int q4), .val (.int q5), .val (.int q2)] [(.int (q4 - (1 : Int32)))]) (fun t k => XS.isub X0.here hx rfl (hb hby dE_72) rfl k) ?_
                    generalize hv72 : (q4 - (1 : Int32)) = v72
                    have f72 : (v72.toInt - (q4.toInt - 1)) % 4294967296 = 0 := by rw [← hv72]; exact c_isub q4 (1 : Int32)
                    have r72 := rng32 v72
                    refine own_retI X0 hx hlk hret (by simp) rfl (hb hby dE_73) (by decide) (by decide) ?_
                    rw [e0]
                    refine ⟨⟨_, rfl, ?_⟩, N0, rfl⟩
                    unfold own_ex
                    repeat' split
                    all_goals omega
                  · skip
                    refine own_go (mkF m 74 #[.val (.int q1), .val (.int q2), .val (.int q3), .val (.int q4), .val (.int q5), .val (.int q2)] []) (fun t k => XS.icmpYes X0.here hx rfl (pc0 := 67) (pc' := 74) rfl (hb hby dE_67) rfl (own_icT (cd := .ne) c67) (by decide) (by decide) k) ?_
                    refine own_go (mkF m 75 #[.val (.int q1), .val (.int q2), .val (.int q3), .val (.int q4), .val (.int q5), .val (.int q2)] [(.int q1)]) (fun t k => XS.iloadN X0.here hx rfl (hb hby dE_74) rfl k) ?_
                    refine own_go (mkF m 76 #[.val (.int q1), .val (.int q2), .val (.int q3), .val (.int q4), .val (.int q5), .val (.int q2)] [(.int (1 : Int32)), (.int q1)]) (fun t k => XS.iconst X0.here hx rfl (hb hby dE_75) k) ?_
                    refine own_go (mkF m 77 #[.val (.int q1), .val (.int q2), .val (.int q3), .val (.int q4), .val (.int q5), .val (.int q2)] [(.int (q1 - (1 : Int32)))]) (fun t k => XS.isub X0.here hx rfl (hb hby dE_76) rfl k) ?_
                    generalize hv76 : (q1 - (1 : Int32)) = v76
                    have f76 : (v76.toInt - (q1.toInt - 1)) % 4294967296 = 0 := by rw [← hv76]; exact c_isub q1 (1 : Int32)
                    have r76 := rng32 v76
                    refine own_retI X0 hx hlk hret (by simp) rfl (hb hby dE_77) (by decide) (by decide) ?_
                    rw [e0]
                    refine ⟨⟨_, rfl, ?_⟩, N0, rfl⟩
                    unfold own_ex
                    repeat' split
                    all_goals omega
      · skip
        refine own_go (mkF m 24 #[.val (.int q1), .val (.int q2), .val (.int q3), .val (.int q4), .val (.int q5), .val (.int q2)] []) (fun t k => XS.icmpNo X0.here hx rfl (hb hby dE_21) rfl (own_icF (cd := .le) c21) k) ?_
        refine own_go (mkF m 25 #[.val (.int q1), .val (.int q2), .val (.int q3), .val (.int q4), .val (.int q5), .val (.int q2)] [(.int (-1 : Int32))]) (fun t k => XS.iconst X0.here hx rfl (hb hby dE_24) k) ?_
        refine own_retI X0 hx hlk hret (by simp) rfl (hb hby dE_25) (by decide) (by decide) ?_
        rw [e0]
        refine ⟨⟨_, rfl, ?_⟩, N0, rfl⟩
        have lz : (-1 : Int32).toInt = -1 := rfl
        unfold own_ex
        repeat' split
        all_goals omega
  · skip
    refine own_go (mkF m 5 #[.val (.int q1), .val (.int q2), .val (.int q3), .val (.int q4), .val (.int q5), .unset] []) (fun t k => XS.ifNo X0.here hx rfl (hb hby dE_2) rfl (own_zF (cd := .eq) c2) k) ?_
    refine own_go (mkF m 6 #[.val (.int q1), .val (.int q2), .val (.int q3), .val (.int q4), .val (.int q5), .unset] [(.int q2)]) (fun t k => XS.iloadN X0.here hx rfl (hb hby dE_5) rfl k) ?_
    refine own_go (mkF m 7 #[.val (.int q1), .val (.int q2), .val (.int q3), .val (.int q4), .val (.int q5), .unset] [(.int (1 : Int32)), (.int q2)]) (fun t k => XS.iconst X0.here hx rfl (hb hby dE_6) k) ?_
    refine own_go (mkF m 8 #[.val (.int q1), .val (.int q2), .val (.int q3), .val (.int q4), .val (.int q5), .unset] [(.int (q2 + (1 : Int32)))]) (fun t k => XS.iadd X0.here hx rfl (hb hby dE_7) rfl k) ?_
    generalize hv7 : (q2 + (1 : Int32)) = v7
    have f7 : (v7.toInt - (q2.toInt + 1)) % 4294967296 = 0 := by rw [← hv7]; exact c_iadd q2 (1 : Int32)
    have r7 := rng32 v7
    refine own_go (mkF m 12 #[.val (.int q1), .val (.int q2), .val (.int q3), .val (.int q4), .val (.int q5), .unset] [(.int v7)]) (fun t k => XS.goto X0.here hx rfl (pc0 := 8) (pc' := 12) rfl (hb hby dE_8) (by decide) (by decide) k) ?_
    refine own_go (mkF m 14 #[.val (.int q1), .val (.int q2), .val (.int q3), .val (.int q4), .val (.int q5), .val (.int v7)] []) (fun t k => XS.istore X0.here hx rfl (hb hby dE_12) rfl (l' := #[.val (.int q1), .val (.int q2), .val (.int q3), .val (.int q4), .val (.int q5), .val (.int v7)]) rfl k) ?_
    refine own_go (mkF m 15 #[.val (.int q1), .val (.int q2), .val (.int q3), .val (.int q4), .val (.int q5), .val (.int v7)] [(.int q1)]) (fun t k => XS.iloadN X0.here hx rfl (hb hby dE_14) rfl k) ?_
    by_cases c15 : q1.toInt ≤ 0
    · skip
      refine own_go (mkF m 24 #[.val (.int q1), .val (.int q2), .val (.int q3), .val (.int q4), .val (.int q5), .val (.int v7)] []) (fun t k => XS.ifYes X0.here hx rfl (pc0 := 15) (pc' := 24) rfl (hb hby dE_15) rfl (own_zT (cd := .le) c15) (by decide) (by decide) k) ?_
      refine own_go (mkF m 25 #[.val (.int q1), .val (.int q2), .val (.int q3), .val (.int q4), .val (.int q5), .val (.int v7)] [(.int (-1 : Int32))]) (fun t k => XS.iconst X0.here hx rfl (hb hby dE_24) k) ?_
      refine own_retI X0 hx hlk hret (by simp) rfl (hb hby dE_25) (by decide) (by decide) ?_
      rw [e0]
      refine ⟨⟨_, rfl, ?_⟩, N0, rfl⟩
      have lz : (-1 : Int32).toInt = -1 := rfl
      unfold own_ex
      repeat' split
      all_goals omega
    · skip
      refine own_go (mkF m 18 #[.val (.int q1), .val (.int q2), .val (.int q3), .val (.int q4), .val (.int q5), .val (.int v7)] []) (fun t k => XS.ifNo X0.here hx rfl (hb hby dE_15) rfl (own_zF (cd := .le) c15) k) ?_
      refine own_go (mkF m 19 #[.val (.int q1), .val (.int q2), .val (.int q3), .val (.int q4), .val (.int q5), .val (.int v7)] [(.int q1)]) (fun t k => XS.iloadN X0.here hx rfl (hb hby dE_18) rfl k) ?_
      refine own_go (mkF m 21 #[.val (.int q1), .val (.int q2), .val (.int q3), .val (.int q4), .val (.int q5), .val (.int v7)] [(.int v7), (.int q1)]) (fun t k => XS.iload X0.here hx rfl (hb hby dE_19) rfl k) ?_
      by_cases c21 : q1.toInt ≤ v7.toInt
      · skip
        refine own_go (mkF m 26 #[.val (.int q1), .val (.int q2), .val (.int q3), .val (.int q4), .val (.int q5), .val (.int v7)] []) (fun t k => XS.icmpYes X0.here hx rfl (pc0 := 21) (pc' := 26) rfl (hb hby dE_21) rfl (own_icT (cd := .le) c21) (by decide) (by decide) k) ?_
        refine own_go (mkF m 27 #[.val (.int q1), .val (.int q2), .val (.int q3), .val (.int q4), .val (.int q5), .val (.int v7)] [(.int q3)]) (fun t k => XS.iloadN X0.here hx rfl (hb hby dE_26) rfl k) ?_
        by_cases c27 : q3.toInt = 0
        · skip
          refine own_go (mkF m 37 #[.val (.int q1), .val (.int q2), .val (.int q3), .val (.int q4), .val (.int q5), .val (.int v7)] []) (fun t k => XS.ifYes X0.here hx rfl (pc0 := 27) (pc' := 37) rfl (hb hby dE_27) rfl (own_zT (cd := .eq) c27) (by decide) (by decide) k) ?_
          refine own_go (mkF m 39 #[.val (.int q1), .val (.int q2), .val (.int q3), .val (.int q4), .val (.int q5), .val (.int v7)] [(.int q5)]) (fun t k => XS.iload X0.here hx rfl (hb hby dE_37) rfl k) ?_
          by_cases c39 : q5.toInt = 0
          · skip
            refine own_go (mkF m 61 #[.val (.int q1), .val (.int q2), .val (.int q3), .val (.int q4), .val (.int q5), .val (.int v7)] []) (fun t k => XS.ifYes X0.here hx rfl (pc0 := 39) (pc' := 61) rfl (hb hby dE_39) rfl (own_zT (cd := .eq) c39) (by decide) (by decide) k) ?_
            refine own_go (mkF m 62 #[.val (.int q1), .val (.int q2), .val (.int q3), .val (.int q4), .val (.int q5), .val (.int v7)] [(.int q3)]) (fun t k => XS.iloadN X0.here hx rfl (hb hby dE_61) rfl k) ?_
            by_cases c62 : q3.toInt = 0
            · skip
              refine own_go (mkF m 74 #[.val (.int q1), .val (.int q2), .val (.int q3), .val (.int q4), .val (.int q5), .val (.int v7)] []) (fun t k => XS.ifYes X0.here hx rfl (pc0 := 62) (pc' := 74) rfl (hb hby dE_62) rfl (own_zT (cd := .eq) c62) (by decide) (by decide) k) ?_
              refine own_go (mkF m 75 #[.val (.int q1), .val (.int q2), .val (.int q3), .val (.int q4), .val (.int q5), .val (.int v7)] [(.int q1)]) (fun t k => XS.iloadN X0.here hx rfl (hb hby dE_74) rfl k) ?_
              refine own_go (mkF m 76 #[.val (.int q1), .val (.int q2), .val (.int q3), .val (.int q4), .val (.int q5), .val (.int v7)] [(.int (1 : Int32)), (.int q1)]) (fun t k => XS.iconst X0.here hx rfl (hb hby dE_75) k) ?_
              refine own_go (mkF m 77 #[.val (.int q1), .val (.int q2), .val (.int q3), .val (.int q4), .val (.int q5), .val (.int v7)] [(.int (q1 - (1 : Int32)))]) (fun t k => XS.isub X0.here hx rfl (hb hby dE_76) rfl k) ?_
              generalize hv76 : (q1 - (1 : Int32)) = v76
              have f76 : (v76.toInt - (q1.toInt - 1)) % 4294967296 = 0 := by rw [← hv76]; exact c_isub q1 (1 : Int32)
              have r76 := rng32 v76
              refine own_retI X0 hx hlk hret (by simp) rfl (hb hby dE_77) (by decide) (by decide) ?_
              rw [e0]
              refine ⟨⟨_, rfl, ?_⟩, N0, rfl⟩
              unfold own_ex
              repeat' split
              all_goals omega
            · skip
              refine own_go (mkF m 65 #[.val (.int q1), .val (.int q2), .val (.int q3), .val (.int q4), .val (.int q5), .val (.int v7)] []) (fun t k => XS.ifNo X0.here hx rfl (hb hby dE_62) rfl (own_zF (cd := .eq) c62) k) ?_
              refine own_go (mkF m 66 #[.val (.int q1), .val (.int q2), .val (.int q3), .val (.int q4), .val (.int q5), .val (.int v7)] [(.int q1)]) (fun t k => XS.iloadN X0.here hx rfl (hb hby dE_65) rfl k) ?_
              refine own_go (mkF m 67 #[.val (.int q1), .val (.int q2), .val (.int q3), .val (.int q4), .val (.int q5), .val (.int v7)] [(.int q2), (.int q1)]) (fun t k => XS.iloadN X0.here hx rfl (hb hby dE_66) rfl k) ?_
              by_cases c67 : q1.toInt = q2.toInt
              · skip
                refine own_go (mkF m 70 #[.val (.int q1), .val (.int q2), .val (.int q3), .val (.int q4), .val (.int q5), .val (.int v7)] []) (fun t k => XS.icmpNo X0.here hx rfl (hb hby dE_67) rfl (own_icF (cd := .ne) (fun q => q c67)) k) ?_
                refine own_go (mkF m 71 #[.val (.int q1), .val (.int q2), .val (.int q3), .val (.int q4), .val (.int q5), .val (.int v7)] [(.int q4)]) (fun t k => XS.iloadN X0.here hx rfl (hb hby dE_70) rfl k) ?_
                refine own_go (mkF m 72 #[.val (.int q1), .val (.int q2), .val (.int q3), .val (.int q4), .val (.int q5), .val (.int v7)] [(.int (1 : Int32)), (.int q4)]) (fun t k => XS.iconst X0.here hx rfl (hb hby dE_71) k) ?_
                refine own_go (mkF m 73 #[.val (.int q1), .val (.int q2), .val (.int q3), .val (.int q4), .val (.int q5), .val (.int v7)] [(.int (q4 - (1 : Int32)))]) (fun t k => XS.isub X0.here hx rfl (hb hby dE_72) rfl k) ?_
                generalize hv72 : (q4 - (1 : Int32)) = v72
                have f72 : (v72.toInt - (q4.toInt - 1)) % 4294967296 = 0 := by rw [← hv72]; exact c_isub q4 (1 : Int32)
                have r72 := rng32 v72
                refine own_retI X0 hx hlk hret (by simp) rfl (hb hby dE_73) (by decide) (by decide) ?_
                rw [e0]
                refine ⟨⟨_, rfl, ?_⟩, N0, rfl⟩
                unfold own_ex
                repeat' split
                all_goals omega
              · skip
                refine own_go (mkF m 74 #[.val (.int q1), .val (.int q2), .val (.int q3), .val (.int q4), .val (.int q5), .val (.int v7)] []) (fun t k => XS.icmpYes X0.here hx rfl (pc0 := 67) (pc' := 74) rfl (hb hby dE_67) rfl (own_icT (cd := .ne) c67) (by decide) (by decide) k) ?_
                refine own_go (mkF m 75 #[.val (.int q1), .val (.int q2), .val (.int q3), .val (.int q4), .val (.int q5), .val (.int v7)] [(.int q1)]) (fun t k => XS.iloadN X0.here hx rfl (hb hby dE_74) rfl k) ?_
                refine own_go (mkF m 76 #[.val (.int q1), .val (.int q2), .val (.int q3), .val (.int q4), .val (.int q5), .val (.int v7)] [(.int (1 : Int32)), (.int q1)]) (fun t k => XS.iconst X0.here hx rfl (hb hby dE_75) k) ?_
                refine own_go (mkF m 77 #[.val (.int q1), .val (.int q2), .val (.int q3), .val (.int q4), .val (.int q5), .val (.int v7)] [(.int (q1 - (1 : Int32)))]) (fun t k => XS.isub X0.here hx rfl (hb hby dE_76) rfl k) ?_
                generalize hv76 : (q1 - (1 : Int32)) = v76
                have f76 : (v76.toInt - (q1.toInt - 1)) % 4294967296 = 0 := by rw [← hv76]; exact c_isub q1 (1 : Int32)
                have r76 := rng32 v76
                refine own_retI X0 hx hlk hret (by simp) rfl (hb hby dE_77) (by decide) (by decide) ?_
                rw [e0]
                refine ⟨⟨_, rfl, ?_⟩, N0, rfl⟩
                unfold own_ex
                repeat' split
                all_goals omega
          · skip
            refine own_go (mkF m 42 #[.val (.int q1), .val (.int q2), .val (.int q3), .val (.int q4), .val (.int q5), .val (.int v7)] []) (fun t k => XS.ifNo X0.here hx rfl (hb hby dE_39) rfl (own_zF (cd := .eq) c39) k) ?_
            refine own_go (mkF m 43 #[.val (.int q1), .val (.int q2), .val (.int q3), .val (.int q4), .val (.int q5), .val (.int v7)] [(.int q1)]) (fun t k => XS.iloadN X0.here hx rfl (hb hby dE_42) rfl k) ?_
            refine own_go (mkF m 44 #[.val (.int q1), .val (.int q2), .val (.int q3), .val (.int q4), .val (.int q5), .val (.int v7)] [(.int q2), (.int q1)]) (fun t k => XS.iloadN X0.here hx rfl (hb hby dE_43) rfl k) ?_
            refine own_go (mkF m 45 #[.val (.int q1), .val (.int q2), .val (.int q3), .val (.int q4), .val (.int q5), .val (.int v7)] [(.int (1 : Int32)), (.int q2), (.int q1)]) (fun t k => XS.iconst X0.here hx rfl (hb hby dE_44) k) ?_
            refine own_go (mkF m 46 #[.val (.int q1), .val (.int q2), .val (.int q3), .val (.int q4), .val (.int q5), .val (.int v7)] [(.int (q2 + (1 : Int32))), (.int q1)]) (fun t k => XS.iadd X0.here hx rfl (hb hby dE_45) rfl k) ?_
            generalize hv45 : (q2 + (1 : Int32)) = v45
            have f45 : (v45.toInt - (q2.toInt + 1)) % 4294967296 = 0 := by rw [← hv45]; exact c_iadd q2 (1 : Int32)
            have r45 := rng32 v45
            by_cases c46 : q1.toInt = v45.toInt
            · skip
              refine own_go (mkF m 49 #[.val (.int q1), .val (.int q2), .val (.int q3), .val (.int q4), .val (.int q5), .val (.int v7)] []) (fun t k => XS.icmpNo X0.here hx rfl (hb hby dE_46) rfl (own_icF (cd := .ne) (fun q => q c46)) k) ?_
              refine own_go (mkF m 50 #[.val (.int q1), .val (.int q2), .val (.int q3), .val (.int q4), .val (.int q5), .val (.int v7)] [(.int q3)]) (fun t k => XS.iloadN X0.here hx rfl (hb hby dE_49) rfl k) ?_
              by_cases c50 : q3.toInt = 0
              · skip
                refine own_go (mkF m 59 #[.val (.int q1), .val (.int q2), .val (.int q3), .val (.int q4), .val (.int q5), .val (.int v7)] []) (fun t k => XS.ifYes X0.here hx rfl (pc0 := 50) (pc' := 59) rfl (hb hby dE_50) rfl (own_zT (cd := .eq) c50) (by decide) (by decide) k) ?_
                refine own_go (mkF m 60 #[.val (.int q1), .val (.int q2), .val (.int q3), .val (.int q4), .val (.int q5), .val (.int v7)] [(.int q2)]) (fun t k => XS.iloadN X0.here hx rfl (hb hby dE_59) rfl k) ?_
                refine own_retI X0 hx hlk hret (by simp) rfl (hb hby dE_60) (by decide) (by decide) ?_
                rw [e0]
                refine ⟨⟨_, rfl, ?_⟩, N0, rfl⟩
                unfold own_ex
                repeat' split
                all_goals omega
              · skip
                refine own_go (mkF m 53 #[.val (.int q1), .val (.int q2), .val (.int q3), .val (.int q4), .val (.int q5), .val (.int v7)] []) (fun t k => XS.ifNo X0.here hx rfl (hb hby dE_50) rfl (own_zF (cd := .eq) c50) k) ?_
                refine own_go (mkF m 54 #[.val (.int q1), .val (.int q2), .val (.int q3), .val (.int q4), .val (.int q5), .val (.int v7)] [(.int q2)]) (fun t k => XS.iloadN X0.here hx rfl (hb hby dE_53) rfl k) ?_
                refine own_go (mkF m 55 #[.val (.int q1), .val (.int q2), .val (.int q3), .val (.int q4), .val (.int q5), .val (.int v7)] [(.int (1 : Int32)), (.int q2)]) (fun t k => XS.iconst X0.here hx rfl (hb hby dE_54) k) ?_
                refine own_go (mkF m 56 #[.val (.int q1), .val (.int q2), .val (.int q3), .val (.int q4), .val (.int q5), .val (.int v7)] [(.int (q2 - (1 : Int32)))]) (fun t k => XS.isub X0.here hx rfl (hb hby dE_55) rfl k) ?_
                generalize hv55 : (q2 - (1 : Int32)) = v55
                have f55 : (v55.toInt - (q2.toInt - 1)) % 4294967296 = 0 := by rw [← hv55]; exact c_isub q2 (1 : Int32)
                have r55 := rng32 v55
                refine own_go (mkF m 60 #[.val (.int q1), .val (.int q2), .val (.int q3), .val (.int q4), .val (.int q5), .val (.int v7)] [(.int v55)]) (fun t k => XS.goto X0.here hx rfl (pc0 := 56) (pc' := 60) rfl (hb hby dE_56) (by decide) (by decide) k) ?_
                refine own_retI X0 hx hlk hret (by simp) rfl (hb hby dE_60) (by decide) (by decide) ?_
                rw [e0]
                refine ⟨⟨_, rfl, ?_⟩, N0, rfl⟩
                unfold own_ex
                repeat' split
                all_goals omega
            · skip
              refine own_go (mkF m 61 #[.val (.int q1), .val (.int q2), .val (.int q3), .val (.int q4), .val (.int q5), .val (.int v7)] []) (fun t k => XS.icmpYes X0.here hx rfl (pc0 := 46) (pc' := 61) rfl (hb hby dE_46) rfl (own_icT (cd := .ne) c46) (by decide) (by decide) k) ?_
              refine own_go (mkF m 62 #[.val (.int q1), .val (.int q2), .val (.int q3), .val (.int q4), .val (.int q5), .val (.int v7)] [(.int q3)]) (fun t k => XS.iloadN X0.here hx rfl (hb hby dE_61) rfl k) ?_
              by_cases c62 : q3.toInt = 0
              · skip
                refine own_go (mkF m 74 #[.val (.int q1), .val (.int q2), .val (.int q3), .val (.int q4), .val (.int q5), .val (.int v7)] []) (fun t k => XS.ifYes X0.here hx rfl (pc0 := 62) (pc' := 74) rfl (hb hby dE_62) rfl (own_zT (cd := .eq) c62) (by decide) (by decide) k) ?_
                refine own_go (mkF m 75 #[.val (.int q1), .val (.int q2), .val (.int q3), .val (.int q4), .val (.int q5), .val (.int v7)] [(.int q1)]) (fun t k => XS.iloadN X0.here hx rfl (hb hby dE_74) rfl k) ?_
                refine own_go (mkF m 76 #[.val (.int q1), .val (.int q2), .val (.int q3), .val (.int q4), .val (.int q5), .val (.int v7)] [(.int (1 : Int32)), (.int q1)]) (fun t k => XS.iconst X0.here hx rfl (hb hby dE_75) k) ?_
                refine own_go (mkF m 77 #[.val (.int q1), .val (.int q2), .val (.int q3), .val (.int q4), .val (.int q5), .val (.int v7)] [(.int (q1 - (1 : Int32)))]) (fun t k => XS.isub X0.here hx rfl (hb hby dE_76) rfl k) ?_
                generalize hv76 : (q1 - (1 : Int32)) = v76
                have f76 : (v76.toInt - (q1.toInt - 1)) % 4294967296 = 0 := by rw [← hv76]; exact c_isub q1 (1 : Int32)
                have r76 := rng32 v76
                refine own_retI X0 hx hlk hret (by simp) rfl (hb hby dE_77) (by decide) (by decide) ?_
                rw [e0]
                refine ⟨⟨_, rfl, ?_⟩, N0, rfl⟩
                unfold own_ex
                repeat' split
                all_goals omega
              · skip
                refine own_go (mkF m 65 #[.val (.int q1), .val (.int q2), .val (.int q3), .val (.int q4), .val (.int q5), .val (.int v7)] []) (fun t k => XS.ifNo X0.here hx rfl (hb hby dE_62) rfl (own_zF (cd := .eq) c62) k) ?_
                refine own_go (mkF m 66 #[.val (.int q1), .val (.int q2), .val (.int q3), .val (.int q4), .val (.int q5), .val (.int v7)] [(.int q1)]) (fun t k => XS.iloadN X0.here hx rfl (hb hby dE_65) rfl k) ?_
                refine own_go (mkF m 67 #[.val (.int q1), .val (.int q2), .val (.int q3), .val (.int q4), .val (.int q5), .val (.int v7)] [(.int q2), (.int q1)]) (fun t k => XS.iloadN X0.here hx rfl (hb hby dE_66) rfl k) ?_
                by_cases c67 : q1.toInt = q2.toInt
                · skip
                  refine own_go (mkF m 70 #[.val (.int q1), .val (.int q2), .val (.int q3), .val (.int q4), .val (.int q5), .val (.int v7)] []) (fun t k => XS.icmpNo X0.here hx rfl (hb hby dE_67) rfl (own_icF (cd := .ne) (fun q => q c67)) k) ?_
                  refine own_go (mkF m 71 #[.val (.int q1), .val (.int q2), .val (.int q3), .val (.int q4), .val (.int q5), .val (.int v7)] [(.int q4)]) (fun t k => XS.iloadN X0.here hx rfl (hb hby dE_70) rfl k) ?_
                  refine own_go (mkF m 72 #[.val (.int q1), .val (.int q2), .val (.int q3), .val (.int q4), .val (.int q5), .val (.int v7)] [(.int (1 : Int32)), (.int q4)]) (fun t k => XS.iconst X0.here hx rfl (hb hby dE_71) k) ?_
                  refine own_go (mkF m 73 #[.val (.int q1), .val (.int q2), .val (.int q3), .val (.int q4), .val (.int q5), .val (.int v7)] [(.int (q4 - (1 : Int32)))]) (fun t k => XS.isub X0.here hx rfl (hb hby dE_72) rfl k) ?_
                  generalize hv72 : (q4 - (1 : Int32)) = v72
                  have f72 : (v72.toInt - (q4.toInt - 1)) % 4294967296 = 0 := by rw [← hv72]; exact c_isub q4 (1 : Int32)
                  have r72 := rng32 v72
                  refine own_retI X0 hx hlk hret (by simp) rfl (hb hby dE_73) (by decide) (by decide) ?_
                  rw [e0]
                  refine ⟨⟨_, rfl, ?_⟩, N0, rfl⟩
                  unfold own_ex
                  repeat' split
                  all_goals omega
                · skip
                  refine own_go (mkF m 74 #[.val (.int q1), .val (.int q2), .val (.int q3), .val (.int q4), .val (.int q5), .val (.int v7)] []) (fun t k => XS.icmpYes X0.here hx rfl (pc0 := 67) (pc' := 74) rfl (hb hby dE_67) rfl (own_icT (cd := .ne) c67) (by decide) (by decide) k) ?_
                  refine own_go (mkF m 75 #[.val (.int q1), .val (.int q2), .val (.int q3), .val (.int q4), .val (.int q5), .val (.int v7)] [(.int q1)]) (fun t k => XS.iloadN X0.here hx rfl (hb hby dE_74) rfl k) ?_
                  refine own_go (mkF m 76 #[.val (.int q1), .val (.int q2), .val (.int q3), .val (.int q4), .val (.int q5), .val (.int v7)] [(.int (1 : Int32)), (.int q1)]) (fun t k => XS.iconst X0.here hx rfl (hb hby dE_75) k) ?_
                  refine own_go (mkF m 77 #[.val (.int q1), .val (.int q2), .val (.int q3), .val (.int q4), .val (.int q5), .val (.int v7)] [(.int (q1 - (1 : Int32)))]) (fun t k => XS.isub X0.here hx rfl (hb hby dE_76) rfl k) ?_
                  generalize hv76 : (q1 - (1 : Int32)) = v76
                  have f76 : (v76.toInt - (q1.toInt - 1)) % 4294967296 = 0 := by rw [← hv76]; exact c_isub q1 (1 : Int32)
                  have r76 := rng32 v76
                  refine own_retI X0 hx hlk hret (by simp) rfl (hb hby dE_77) (by decide) (by decide) ?_
                  rw [e0]
                  refine ⟨⟨_, rfl, ?_⟩, N0, rfl⟩
                  unfold own_ex
                  repeat' split
                  all_goals omega
        · skip
          refine own_go (mkF m 30 #[.val (.int q1), .val (.int q2), .val (.int q3), .val (.int q4), .val (.int q5), .val (.int v7)] []) (fun t k => XS.ifNo X0.here hx rfl (hb hby dE_27) rfl (own_zF (cd := .eq) c27) k) ?_
          refine own_go (mkF m 31 #[.val (.int q1), .val (.int q2), .val (.int q3), .val (.int q4), .val (.int q5), .val (.int v7)] [(.int q1)]) (fun t k => XS.iloadN X0.here hx rfl (hb hby dE_30) rfl k) ?_
          refine own_go (mkF m 32 #[.val (.int q1), .val (.int q2), .val (.int q3), .val (.int q4), .val (.int q5), .val (.int v7)] [(.int q4), (.int q1)]) (fun t k => XS.iloadN X0.here hx rfl (hb hby dE_31) rfl k) ?_
          by_cases c32 : q1.toInt = q4.toInt
          · skip
            refine own_go (mkF m 35 #[.val (.int q1), .val (.int q2), .val (.int q3), .val (.int q4), .val (.int q5), .val (.int v7)] []) (fun t k => XS.icmpNo X0.here hx rfl (hb hby dE_32) rfl (own_icF (cd := .ne) (fun q => q c32)) k) ?_
            refine own_go (mkF m 36 #[.val (.int q1), .val (.int q2), .val (.int q3), .val (.int q4), .val (.int q5), .val (.int v7)] [(.int (-1 : Int32))]) (fun t k => XS.iconst X0.here hx rfl (hb hby dE_35) k) ?_
            refine own_retI X0 hx hlk hret (by simp) rfl (hb hby dE_36) (by decide) (by decide) ?_
            rw [e0]
            refine ⟨⟨_, rfl, ?_⟩, N0, rfl⟩
            have lz : (-1 : Int32).toInt = -1 := rfl
            unfold own_ex
            repeat' split
            all_goals omega
          · skip
            refine own_go (mkF m 37 #[.val (.int q1), .val (.int q2), .val (.int q3), .val (.int q4), .val (.int q5), .val (.int v7)] []) (fun t k => XS.icmpYes X0.here hx rfl (pc0 := 32) (pc' := 37) rfl (hb hby dE_32) rfl (own_icT (cd := .ne) c32) (by decide) (by decide) k) ?_
            refine own_go (mkF m 39 #[.val (.int q1), .val (.int q2), .val (.int q3), .val (.int q4), .val (.int q5), .val (.int v7)] [(.int q5)]) (fun t k => XS.iload X0.here hx rfl (hb hby dE_37) rfl k) ?_
            by_cases c39 : q5.toInt = 0
            · skip
              refine own_go (mkF m 61 #[.val (.int q1), .val (.int q2), .val (.int q3), .val (.int q4), .val (.int q5), .val (.int v7)] []) (fun t k => XS.ifYes X0.here hx rfl (pc0 := 39) (pc' := 61) rfl (hb hby dE_39) rfl (own_zT (cd := .eq) c39) (by decide) (by decide) k) ?_
              refine own_go (mkF m 62 #[.val (.int q1), .val (.int q2), .val (.int q3), .val (.int q4), .val (.int q5), .val (.int v7)] [(.int q3)]) (fun t k => XS.iloadN X0.here hx rfl (hb hby dE_61) rfl k) ?_
              by_cases c62 : q3.toInt = 0
              · skip
                refine own_go (mkF m 74 #[.val (.int q1), .val (.int q2), .val (.int q3), .val (.int q4), .val (.int q5), .val (.int v7)] []) (fun t k => XS.ifYes X0.here hx rfl (pc0 := 62) (pc' := 74) rfl (hb hby dE_62) rfl (own_zT (cd := .eq) c62) (by decide) (by decide) k) ?_
                refine own_go (mkF m 75 #[.val (.int q1), .val (.int q2), .val (.int q3), .val (.int q4), .val (.int q5), .val (.int v7)] [(.int q1)]) (fun t k => XS.iloadN X0.here hx rfl (hb hby dE_74) rfl k) ?_
                refine own_go (mkF m 76 #[.val (.int q1), .val (.int q2), .val (.int q3), .val (.int q4), .val (.int q5), .val (.int v7)] [(.int (1 : Int32)), (.int q1)]) (fun t k => XS.iconst X0.here hx rfl (hb hby dE_75) k) ?_
                refine own_go (mkF m 77 #[.val (.int q1), .val (.int q2), .val (.int q3), .val (.int q4), .val (.int q5), .val (.int v7)] [(.int (q1 - (1 : Int32)))]) (fun t k => XS.isub X0.here hx rfl (hb hby dE_76) rfl k) ?_
                generalize hv76 : (q1 - (1 : Int32)) = v76
                have f76 : (v76.toInt - (q1.toInt - 1)) % 4294967296 = 0 := by rw [← hv76]; exact c_isub q1 (1 : Int32)
                have r76 := rng32 v76
                refine own_retI X0 hx hlk hret (by simp) rfl (hb hby dE_77) (by decide) (by decide) ?_
                rw [e0]
                refine ⟨⟨_, rfl, ?_⟩, N0, rfl⟩
                unfold own_ex
                repeat' split
                all_goals omega
              · skip
                refine own_go (mkF m 65 #[.val (.int q1), .val (.int q2), .val (.int q3), .val (.int q4), .val (.int q5), .val (.int v7)] []) (fun t k => XS.ifNo X0.here hx rfl (hb hby dE_62) rfl (own_zF (cd := .eq) c62) k) ?_
                refine own_go (mkF m 66 #[.val (.int q1), .val (.int q2), .val (.int q3), .val (.int q4), .val (.int q5), .val (.int v7)] [(.int q1)]) (fun t k => XS.iloadN X0.here hx rfl (hb hby dE_65) rfl k) ?_
                refine own_go (mkF m 67 #[.val (.int q1), .val (.int q2), .val (.int q3), .val (.int q4), .val (.int q5), .val (.int v7)] [(.int q2), (.int q1)]) (fun t k => XS.iloadN X0.here hx rfl (hb hby dE_66) rfl k) ?_
                by_cases c67 : q1.toInt = q2.toInt
                · skip
                  refine own_go (mkF m 70 #[.val (.int q1), .val (.int q2), .val (.int q3), .val (.int q4), .val (.int q5), .val (.int v7)] []) (fun t k => XS.icmpNo X0.here hx rfl (hb hby dE_67) rfl (own_icF (cd := .ne) (fun q => q c67)) k) ?_
                  refine own_go (mkF m 71 #[.val (.int q1), .val (.int q2), .val (.int q3), .val (.int q4), .val (.int q5), .val (.int v7)] [(.int q4)]) (fun t k => XS.iloadN X0.here hx rfl (hb hby dE_70) rfl k) ?_
                  refine own_go (mkF m 72 #[.val (.int q1), .val (.int q2), .val (.int q3), .val (.int q4), .val (.int q5), .val (.int v7)] [(.int (1 : Int32)), (.int q4)]) (fun t k => XS.iconst X0.here hx rfl (hb hby dE_71) k) ?_
                  refine own_go (mkF m 73 #[.val (.int q1), .val (.int q2), .val (.int q3), .val (.int q4), .val (.int q5), .val (.int v7)] [(.int (q4 - (1 : Int32)))]) (fun t k => XS.isub X0.here hx rfl (hb hby dE_72) rfl k) ?_
                  generalize hv72 : (q4 - (1 : Int32)) = v72
                  have f72 : (v72.toInt - (q4.toInt - 1)) % 4294967296 = 0 := by rw [← hv72]; exact c_isub q4 (1 : Int32)
                  have r72 := rng32 v72
                  refine own_retI X0 hx hlk hret (by simp) rfl (hb hby dE_73) (by decide) (by decide) ?_
                  rw [e0]
                  refine ⟨⟨_, rfl, ?_⟩, N0, rfl⟩
                  unfold own_ex
                  repeat' split
                  all_goals omega
                · skip
                  refine own_go (mkF m 74 #[.val (.int q1), .val (.int q2), .val (.int q3), .val (.int q4), .val (.int q5), .val (.int v7)] []) (fun t k => XS.icmpYes X0.here hx rfl (pc0 := 67) (pc' := 74) rfl (hb hby dE_67) rfl (own_icT (cd := .ne) c67) (by decide) (by decide) k) ?_
                  refine own_go (mkF m 75 #[.val (.int q1), .val (.int q2), .val (.int q3), .val (.int q4), .val (.int q5), .val (.int v7)] [(.int q1)]) (fun t k => XS.iloadN X0.here hx rfl (hb hby dE_74) rfl k) ?_
                  refine own_go (mkF m 76 #[.val (.int q1), .val (.int q2), .val (.int q3), .val (.int q4), .val (.int q5), .val (.int v7)] [(.int (1 : Int32)), (.int q1)]) (fun t k => XS.iconst X0.here hx rfl (hb hby dE_75) k) ?_
                  refine own_go (mkF m 77 #[.val (.int q1), .val (.int q2), .val (.int q3), .val (.int q4), .val (.int q5), .val (.int v7)] [(.int (q1 - (1 : Int32)))]) (fun t k => XS.isub X0.here hx rfl (hb hby dE_76) rfl k) ?_
                  generalize hv76 : (q1 - (1 : Int32)) = v76
                  have f76 : (v76.toInt - (q1.toInt - 1)) % 4294967296 = 0 := by rw [← hv76]; exact c_isub q1 (1 : Int32)
                  have r76 := rng32 v76
                  refine own_retI X0 hx hlk hret (by simp) rfl (hb hby dE_77) (by decide) (by decide) ?_
                  rw [e0]
                  refine ⟨⟨_, rfl, ?_⟩, N0, rfl⟩
                  unfold own_ex
                  repeat' split
                  all_goals omega
            · skip
              refine own_go (mkF m 42 #[.val (.int q1), .val (.int q2), .val (.int q3), .val (.int q4), .val (.int q5), .val (.int v7)] []) (fun t k => XS.ifNo X0.here hx rfl (hb hby dE_39) rfl (own_zF (cd := .eq) c39) k) ?_
              refine own_go (mkF m 43 #[.val (.int q1), .val (.int q2), .val (.int q3), .val (.int q4), .val (.int q5), .val (.int v7)] [(.int q1)]) (fun t k => XS.iloadN X0.here hx rfl (hb hby dE_42) rfl k) ?_
              refine own_go (mkF m 44 #[.val (.int q1), .val (.int q2), .val (.int q3), .val (.int q4), .val (.int q5), .val (.int v7)] [(.int q2), (.int q1)]) (fun t k => XS.iloadN X0.here hx rfl (hb hby dE_43) rfl k) ?_
              refine own_go (mkF m 45 #[.val (.int q1), .val (.int q2), .val (.int q3), .val (.int q4), .val (.int q5), .val (.int v7)] [(.int (1 : Int32)), (.int q2), (.int q1)]) (fun t k => XS.iconst X0.here hx rfl (hb hby dE_44) k) ?_
              refine own_go (mkF m 46 #[.val (.int q1), .val (.int q2), .val (.int q3), .val (.int q4), .val (.int q5), .val (.int v7)] [(.int (q2 + (1 : Int32))), (.int q1)]) (fun t k => XS.iadd X0.here hx rfl (hb hby dE_45) rfl k) ?_
              generalize hv45 : (q2 + (1 : Int32)) = v45
              have f45 : (v45.toInt - (q2.toInt + 1)) % 4294967296 = 0 := by rw [← hv45]; exact c_iadd q2 (1 : Int32)
              have r45 := rng32 v45
              by_cases c46 : q1.toInt = v45.toInt
              · skip
                refine own_go (mkF m 49 #[.val (.int q1), .val (.int q2), .val (.int q3), .val (.int q4), .val (.int q5), .val (.int v7)] []) (fun t k => XS.icmpNo X0.here hx rfl (hb hby dE_46) rfl (own_icF (cd := .ne) (fun q => q c46)) k) ?_
                refine own_go (mkF m 50 #[.val (.int q1), .val (.int q2), .val (.int q3), .val (.int q4), .val (.int q5), .val (.int v7)] [(.int q3)]) (fun t k => XS.iloadN X0.here hx rfl (hb hby dE_49) rfl k) ?_
                by_cases c50 : q3.toInt = 0
                · skip
                  refine own_go (mkF m 59 #[.val (.int q1), .val (.int q2), .val (.int q3), .val (.int q4), .val (.int q5), .val (.int v7)] []) (fun t k => XS.ifYes X0.here hx rfl (pc0 := 50) (pc' := 59) rfl (hb hby dE_50) rfl (own_zT (cd := .eq) c50) (by decide) (by decide) k) ?_
                  refine own_go (mkF m 60 #[.val (.int q1), .val (.int q2), .val (.int q3), .val (.int q4), .val (.int q5), .val (.int v7)] [(.int q2)]) (fun t k => XS.iloadN X0.here hx rfl (hb hby dE_59) rfl k) ?_
                  refine own_retI X0 hx hlk hret (by simp) rfl (hb hby dE_60) (by decide) (by decide) ?_
                  rw [e0]
                  refine ⟨⟨_, rfl, ?_⟩, N0, rfl⟩
                  unfold own_ex
                  repeat' split
                  all_goals omega
                · skip
                  refine own_go (mkF m 53 #[.val (.int q1), .val (.int q2), .val (.int q3), .val (.int q4), .val (.int q5), .val (.int v7)] []) (fun t k => XS.ifNo X0.here hx rfl (hb hby dE_50) rfl (own_zF (cd := .eq) c50) k) ?_
                  refine own_go (mkF m 54 #[.val (.int q1), .val (.int q2), .val (.int q3), .val (.int q4), .val (.int q5), .val (.int v7)] [(.int q2)]) (fun t k => XS.iloadN X0.here hx rfl (hb hby dE_53) rfl k) ?_
                  refine own_go (mkF m 55 #[.val (.int q1), .val (.int q2), .val (.int q3), .val (.int q4), .val (.int q5), .val (.int v7)] [(.int (1 : Int32)), (.int q2)]) (fun t k => XS.iconst X0.here hx rfl (hb hby dE_54) k) ?_
                  refine own_go (mkF m 56 #[.val (.int q1), .val (.int q2), .val (.int q3), .val (.int q4), .val (.int q5), .val (.int v7)] [(.int (q2 - (1 : Int32)))]) (fun t k => XS.isub X0.here hx rfl (hb hby dE_55) rfl k) ?_
                  generalize hv55 : (q2 - (1 : Int32)) = v55
                  have f55 : (v55.toInt - (q2.toInt - 1)) % 4294967296 = 0 := by rw [← hv55]; exact c_isub q2 (1 : Int32)
                  have r55 := rng32 v55
                  refine own_go (mkF m 60 #[.val (.int q1), .val (.int q2), .val (.int q3), .val (.int q4), .val (.int q5), .val (.int v7)] [(.int v55)]) (fun t k => XS.goto X0.here hx rfl (pc0 := 56) (pc' := 60) rfl (hb hby dE_56) (by decide) (by decide) k) ?_
                  refine own_retI X0 hx hlk hret (by simp) rfl (hb hby dE_60) (by decide) (by decide) ?_
                  rw [e0]
                  refine ⟨⟨_, rfl, ?_⟩, N0, rfl⟩
                  unfold own_ex
                  repeat' split
                  all_goals omega
              · skip
                refine own_go (mkF m 61 #[.val (.int q1), .val (.int q2), .val (.int q3), .val (.int q4), .val (.int q5), .val (.int v7)] []) (fun t k => XS.icmpYes X0.here hx rfl (pc0 := 46) (pc' := 61) rfl (hb hby dE_46) rfl (own_icT (cd := .ne) c46) (by decide) (by decide) k) ?_
                refine own_go (mkF m 62 #[.val (.int q1), .val (.int q2), .val (.int q3), .val (.int q4), .val (.int q5), .val (.int v7)] [(.int q3)]) (fun t k => XS.iloadN X0.here hx rfl (hb hby dE_61) rfl k) ?_
                by_cases c62 : q3.toInt = 0
                · skip
                  refine own_go (mkF m 74 #[.val (.int q1), .val (.int q2), .val (.int q3), .val (.int q4), .val (.int q5), .val (.int v7)] []) (fun t k => XS.ifYes X0.here hx rfl (pc0 := 62) (pc' := 74) rfl (hb hby dE_62) rfl (own_zT (cd := .eq) c62) (by decide) (by decide) k) ?_
                  refine own_go (mkF m 75 #[.val (.int q1), .val (.int q2), .val (.int q3), .val (.int q4), .val (.int q5), .val (.int v7)] [(.int q1)]) (fun t k => XS.iloadN X0.here hx rfl (hb hby dE_74) rfl k) ?_
                  refine own_go (mkF m 76 #[.val (.int q1), .val (.int q2), .val (.int q3), .val (.int q4), .val (.int q5), .val (.int v7)] [(.int (1 : Int32)), (.int q1)]) (fun t k => XS.iconst X0.here hx rfl (hb hby dE_75) k) ?_
                  refine own_go (mkF m 77 #[.val (.int q1), .val (.int q2), .val (.int q3), .val (.int q4), .val (.int q5), .val (.int v7)] [(.int (q1 - (1 : Int32)))]) (fun t k => XS.isub X0.here hx rfl (hb hby dE_76) rfl k) ?_
                  generalize hv76 : (q1 - (1 : Int32)) = v76
                  have f76 : (v76.toInt - (q1.toInt - 1)) % 4294967296 = 0 := by rw [← hv76]; exact c_isub q1 (1 : Int32)
                  have r76 := rng32 v76
                  refine own_retI X0 hx hlk hret (by simp) rfl (hb hby dE_77) (by decide) (by decide) ?_
                  rw [e0]
                  refine ⟨⟨_, rfl, ?_⟩, N0, rfl⟩
                  unfold own_ex
                  repeat' split
                  all_goals omega
                · skip
                  refine own_go (mkF m 65 #[.val (.int q1), .val (.int q2), .val (.int q3), .val (.int q4), .val (.int q5), .val (.int v7)] []) (fun t k => XS.ifNo X0.here hx rfl (hb hby dE_62) rfl (own_zF (cd := .eq) c62) k) ?_
                  refine own_go (mkF m 66 #[.val (.int q1), .val (.int q2), .val (.int q3), .val (.int q4), .val (.int q5), .val (.int v7)] [(.int q1)]) (fun t k => XS.iloadN X0.here hx rfl (hb hby dE_65) rfl k) ?_
                  refine own_go (mkF m 67 #[.val (.int q1), .val (.int q2), .val (.int q3), .val (.int q4), .val (.int q5), .val (.int v7)] [(.int q2), (.int q1)]) (fun t k => XS.iloadN X0.here hx rfl (hb hby dE_66) rfl k) ?_
                  by_cases c67 : q1.toInt = q2.toInt
                  · skip
                    refine own_go (mkF m 70 #[.val (.int q1), .val (.int q2), .val (.int q3), .val (.int q4), .val (.int q5), .val (.int v7)] []) (fun t k => XS.icmpNo X0.here hx rfl (hb hby dE_67) rfl (own_icF (cd := .ne) (fun q => q c67)) k) ?_
                    refine own_go (mkF m 71 #[.val (.int q1), .val (.int q2), .val (.int q3), .val (.int q4), .val (.int q5), .val (.int v7)] [(.int q4)]) (fun t k => XS.iloadN X0.here hx rfl (hb hby dE_70) rfl k) ?_
                    refine own_go (mkF m 72 #[.val (.int q1), .val (.int q2), .val (.int q3), .val (.int q4), .val (.int q5), .val (.int v7)] [(.int (1 : Int32)), (.int q4)]) (fun t k => XS.iconst X0.here hx rfl (hb hby dE_71) k) ?_
                    refine own_go (mkF m 73 #[.val (.int q1), .val (.int q2), .val (.int q3), .val (.int q4), .val (.int q5), .val (.int v7)] [(.int (q4 - (1 : Int32)))]) (fun t k => XS.isub X0.here hx rfl (hb hby dE_72) rfl k) ?_
                    generalize hv72 : (q4 - (1 : Int32)) = v72
                    have f72 : (v72.toInt - (q4.toInt - 1)) % 4294967296 = 0 := by rw [← hv72]; exact c_isub q4 (1 : Int32)
                    have r72 := rng32 v72
                    refine own_retI X0 hx hlk hret (by simp) rfl (hb hby dE_73) (by decide) (by decide) ?_
                    rw [e0]
                    refine ⟨⟨_, rfl, ?_⟩, N0, rfl⟩
                    unfold own_ex
                    repeat' split
                    all_goals omega
                  · skip
                    refine own_go (mkF m 74 #[.val (.int q1), .val (.int q2), .val (.int q3), .val (.int q4), .val (.int q5), .val (.int v7)] []) (fun t k => XS.icmpYes X0.here hx rfl (pc0 := 67) (pc' := 74) rfl (hb hby dE_67) rfl (own_icT (cd := .ne) c67) (by decide) (by decide) k) ?_
                    refine own_go (mkF m 75 #[.val (.int q1), .val (.int q2), .val (.int q3), .val (.int q4), .val (.int q5), .val (.int v7)] [(.int q1)]) (fun t k => XS.iloadN X0.here hx rfl (hb hby dE_74) rfl k) ?_
                    refine own_go (mkF m 76 #[.val (.int q1), .val (.int q2), .val (.int q3), .val (.int q4), .val (.int q5), .val (.int v7)] [(.int (1 : Int32)), (.int q1)]) (fun t k => XS.iconst X0.here hx rfl (hb hby dE_75) k) ?_
                    refine own_go (mkF m 77 #[.val (.int q1), .val (.int q2), .val (.int q3), .val (.int q4), .val (.int q5), .val (.int v7)] [(.int (q1 - (1 : Int32)))]) (fun t k => XS.isub X0.here hx rfl (hb hby dE_76) rfl k) ?_
                    generalize hv76 : (q1 - (1 : Int32)) = v76
                    have f76 : (v76.toInt - (q1.toInt - 1)) % 4294967296 = 0 := by rw [← hv76]; exact c_isub q1 (1 : Int32)
                    have r76 := rng32 v76
                    refine own_retI X0 hx hlk hret (by simp) rfl (hb hby dE_77) (by decide) (by decide) ?_
                    rw [e0]
                    refine ⟨⟨_, rfl, ?_⟩, N0, rfl⟩
                    unfold own_ex
                    repeat' split
                    all_goals omega
      · skip
        refine own_go (mkF m 24 #[.val (.int q1), .val (.int q2), .val (.int q3), .val (.int q4), .val (.int q5), .val (.int v7)] []) (fun t k => XS.icmpNo X0.here hx rfl (hb hby dE_21) rfl (own_icF (cd := .le) c21) k) ?_
        refine own_go (mkF m 25 #[.val (.int q1), .val (.int q2), .val (.int q3), .val (.int q4), .val (.int q5), .val (.int v7)] [(.int (-1 : Int32))]) (fun t k => XS.iconst X0.here hx rfl (hb hby dE_24) k) ?_
        refine own_retI X0 hx hlk hret (by simp) rfl (hb hby dE_25) (by decide) (by decide) ?_
        rw [e0]
        refine ⟨⟨_, rfl, ?_⟩, N0, rfl⟩
        have lz : (-1 : Int32).toInt = -1 := rfl
        unfold own_ex
        repeat' split
        all_goals omega
theorem pd0_0 : parseMethodDescriptor "(I)V" = some ⟨[.int], none⟩ := by decide +kernel
theorem pd0_1 : parseMethodDescriptor "(I)I" = some ⟨[.int], some .int⟩ := by decide +kernel
theorem pd0_2 : parseMethodDescriptor "(IIZIZ)I" = some ⟨[.int, .int, .boolean, .int, .boolean], some .int⟩ := by decide +kernel
theorem pd0_3 : parseMethodDescriptor "()I" = some ⟨[], some .int⟩ := by decide +kernel
theorem pf0 : plainFor (⟨"com/example/chronoquorum/chronoquorum/LiveNodesPositionOfPinLaw", "law", "(IIII)Z"⟩ : MethodName) = true := by decide +kernel
set_option maxHeartbeats 4000000 in
theorem ef0 (m : MethodId) (q1 : Int32) (q2 : Int32) (q3 : Int32) (q4 : Int32) : entryFrame m #[(.int q1), (.int q2), (.int q3), (.int q4)] maxLocals = (mkF m 0 #[.val (.int q1), .val (.int q2), .val (.int q3), .val (.int q4), .unset, .unset, .unset, .unset, .unset, .unset, .unset, .unset] []) := by first | (simp [entryFrame, mkF, argsToLocals, Value.category, maxLocals]; done) | rfl
def Q0 (Z : State) (q1 : Int32) (q2 : Int32) (q3 : Int32) (q4 : Int32) (h0 : Heap) (n0 : Nat) (v : Option Value) (h : Heap) (L : List Loc) : Prop := v = some (.int 1) ∧ Fr n0 L
set_option maxRecDepth 65536 in
set_option maxHeartbeats 40000000 in
theorem rm0 (l : Launch) (Z : State) (a0 : Array Value) (hw : ∀ d ∈ tables_1, d.before a0 Z = true) (ws : List Jvm.Cond) (q1 : Int32) (q2 : Int32) (q3 : Int32) (q4 : Int32) (h0 : Heap) (n0 : Nat) (Z0 : n0 ≤ h0.size) :
    MetFree l x (head1 (Jvm.Cond.code x code maxLocals ret :: ws) room_1) (fun aa U => aa = #[(.int q1), (.int q2), (.int q3), (.int q4)] ∧ Z.Warmed39 U.vm ∧ U.heap = h0) (fun _ _ _ _ _ => True) (fun _ U o U' => ∃ v L, o = .returned v ∧ Q0 Z q1 q2 q3 q4 h0 n0 v U'.heap L ∧ FrameEnd U o U' L room_1.cells room_1.slots) := by
  refine own_met pf0 ?_
  intro p e s m below meth c T0 hx hby hml hown hret hlk hnm hZ X0 e0
  have N0 := Fr.nil n0
  have r_q1 := rng32 q1
  have r_q2 := rng32 q2
  have r_q3 := rng32 q3
  have r_q4 := rng32 q4
  rw [ef0]
  refine own_go (mkF m 1 #[.val (.int q1), .val (.int q2), .val (.int q3), .val (.int q4), .unset, .unset, .unset, .unset, .unset, .unset, .unset, .unset] [(.int q1)]) (fun t k => XS.iloadN X0.here hx rfl (hb hby at_0) rfl k) ?_
  refine own_go (mkF m 3 #[.val (.int q1), .val (.int q2), .val (.int q3), .val (.int q4), .unset, .unset, .unset, .unset, .unset, .unset, .unset, .unset] [(.int (7 : Int32)), (.int q1)]) (fun t k => XS.bipush X0.here hx rfl (hb hby at_1) k) ?_
  refine own_go (mkF m 4 #[.val (.int q1), .val (.int q2), .val (.int q3), .val (.int q4), .unset, .unset, .unset, .unset, .unset, .unset, .unset, .unset] [(.int (q1 &&& (7 : Int32)))]) (fun t k => XS.iand X0.here hx rfl (hb hby at_3) rfl k) ?_
  generalize hv3 : (q1 &&& (7 : Int32)) = v3
  have f3 : v3.toInt = q1.toInt % 8 := by rw [← hv3]; exact c_mask q1 (7 : Int32) 3 (by decide) (by decide)
  have r3 := rng32 v3
  refine own_go (mkF m 6 #[.val (.int q1), .val (.int q2), .val (.int q3), .val (.int q4), .val (.int v3), .unset, .unset, .unset, .unset, .unset, .unset, .unset] []) (fun t k => XS.istore X0.here hx rfl (hb hby at_4) rfl (l' := #[.val (.int q1), .val (.int q2), .val (.int q3), .val (.int q4), .val (.int v3), .unset, .unset, .unset, .unset, .unset, .unset, .unset]) rfl k) ?_
  refine own_go (mkF m 7 #[.val (.int q1), .val (.int q2), .val (.int q3), .val (.int q4), .val (.int v3), .unset, .unset, .unset, .unset, .unset, .unset, .unset] [(.int q1)]) (fun t k => XS.iloadN X0.here hx rfl (hb hby at_6) rfl k) ?_
  refine own_go (mkF m 8 #[.val (.int q1), .val (.int q2), .val (.int q3), .val (.int q4), .val (.int v3), .unset, .unset, .unset, .unset, .unset, .unset, .unset] [(.int (3 : Int32)), (.int q1)]) (fun t k => XS.iconst X0.here hx rfl (hb hby at_7) k) ?_
  refine own_go (mkF m 9 #[.val (.int q1), .val (.int q2), .val (.int q3), .val (.int q4), .val (.int v3), .unset, .unset, .unset, .unset, .unset, .unset, .unset] [(.int ((q1.toUInt32 >>> ((3 : Int32) &&& 31).toUInt32).toInt32))]) (fun t k => XS.iushr X0.here hx rfl (hb hby at_8) rfl k) ?_
  generalize hv8 : ((q1.toUInt32 >>> ((3 : Int32) &&& 31).toUInt32).toInt32) = v8
  refine own_go (mkF m 10 #[.val (.int q1), .val (.int q2), .val (.int q3), .val (.int q4), .val (.int v3), .unset, .unset, .unset, .unset, .unset, .unset, .unset] [(.int (1 : Int32)), (.int v8)]) (fun t k => XS.iconst X0.here hx rfl (hb hby at_9) k) ?_
  refine own_go (mkF m 11 #[.val (.int q1), .val (.int q2), .val (.int q3), .val (.int q4), .val (.int v3), .unset, .unset, .unset, .unset, .unset, .unset, .unset] [(.int (v8 &&& (1 : Int32)))]) (fun t k => XS.iand X0.here hx rfl (hb hby at_10) rfl k) ?_
  generalize hv10 : (v8 &&& (1 : Int32)) = v10
  have f10 : v10.toInt = v8.toInt % 2 := by rw [← hv10]; exact c_mask v8 (1 : Int32) 1 (by decide) (by decide)
  have r10 := rng32 v10
  by_cases c11 : v10.toInt = 0
  · skip
    refine own_go (mkF m 23 #[.val (.int q1), .val (.int q2), .val (.int q3), .val (.int q4), .val (.int v3), .unset, .unset, .unset, .unset, .unset, .unset, .unset] []) (fun t k => XS.ifYes X0.here hx rfl (pc0 := 11) (pc' := 23) rfl (hb hby at_11) rfl (own_zT (cd := .eq) c11) (by decide) (by decide) k) ?_
    refine own_go (mkF m 24 #[.val (.int q1), .val (.int q2), .val (.int q3), .val (.int q4), .val (.int v3), .unset, .unset, .unset, .unset, .unset, .unset, .unset] [(.int (0 : Int32))]) (fun t k => XS.iconst X0.here hx rfl (hb hby at_23) k) ?_
    refine own_go (mkF m 26 #[.val (.int q1), .val (.int q2), .val (.int q3), .val (.int q4), .val (.int v3), .val (.int (0 : Int32)), .unset, .unset, .unset, .unset, .unset, .unset] []) (fun t k => XS.istore X0.here hx rfl (hb hby at_24) rfl (l' := #[.val (.int q1), .val (.int q2), .val (.int q3), .val (.int q4), .val (.int v3), .val (.int (0 : Int32)), .unset, .unset, .unset, .unset, .unset, .unset]) rfl k) ?_
    refine own_go (mkF m 27 #[.val (.int q1), .val (.int q2), .val (.int q3), .val (.int q4), .val (.int v3), .val (.int (0 : Int32)), .unset, .unset, .unset, .unset, .unset, .unset] [(.int q1)]) (fun t k => XS.iloadN X0.here hx rfl (hb hby at_26) rfl k) ?_
    refine own_go (mkF m 28 #[.val (.int q1), .val (.int q2), .val (.int q3), .val (.int q4), .val (.int v3), .val (.int (0 : Int32)), .unset, .unset, .unset, .unset, .unset, .unset] [(.int (4 : Int32)), (.int q1)]) (fun t k => XS.iconst X0.here hx rfl (hb hby at_27) k) ?_
    refine own_go (mkF m 29 #[.val (.int q1), .val (.int q2), .val (.int q3), .val (.int q4), .val (.int v3), .val (.int (0 : Int32)), .unset, .unset, .unset, .unset, .unset, .unset] [(.int ((q1.toUInt32 >>> ((4 : Int32) &&& 31).toUInt32).toInt32))]) (fun t k => XS.iushr X0.here hx rfl (hb hby at_28) rfl k) ?_
    generalize hv28 : ((q1.toUInt32 >>> ((4 : Int32) &&& 31).toUInt32).toInt32) = v28
    refine own_go (mkF m 30 #[.val (.int q1), .val (.int q2), .val (.int q3), .val (.int q4), .val (.int v3), .val (.int (0 : Int32)), .unset, .unset, .unset, .unset, .unset, .unset] [(.int (1 : Int32)), (.int v28)]) (fun t k => XS.iconst X0.here hx rfl (hb hby at_29) k) ?_
    refine own_go (mkF m 31 #[.val (.int q1), .val (.int q2), .val (.int q3), .val (.int q4), .val (.int v3), .val (.int (0 : Int32)), .unset, .unset, .unset, .unset, .unset, .unset] [(.int (v28 &&& (1 : Int32)))]) (fun t k => XS.iand X0.here hx rfl (hb hby at_30) rfl k) ?_
    generalize hv30 : (v28 &&& (1 : Int32)) = v30
    have f30 : v30.toInt = v28.toInt % 2 := by rw [← hv30]; exact c_mask v28 (1 : Int32) 1 (by decide) (by decide)
    have r30 := rng32 v30
    by_cases c31 : v30.toInt = 0
    · skip
      refine own_go (mkF m 38 #[.val (.int q1), .val (.int q2), .val (.int q3), .val (.int q4), .val (.int v3), .val (.int (0 : Int32)), .unset, .unset, .unset, .unset, .unset, .unset] []) (fun t k => XS.ifYes X0.here hx rfl (pc0 := 31) (pc' := 38) rfl (hb hby at_31) rfl (own_zT (cd := .eq) c31) (by decide) (by decide) k) ?_
      refine own_go (mkF m 39 #[.val (.int q1), .val (.int q2), .val (.int q3), .val (.int q4), .val (.int v3), .val (.int (0 : Int32)), .unset, .unset, .unset, .unset, .unset, .unset] [(.int (0 : Int32))]) (fun t k => XS.iconst X0.here hx rfl (hb hby at_38) k) ?_
      refine own_go (mkF m 41 #[.val (.int q1), .val (.int q2), .val (.int q3), .val (.int q4), .val (.int v3), .val (.int (0 : Int32)), .val (.int (0 : Int32)), .unset, .unset, .unset, .unset, .unset] []) (fun t k => XS.istore X0.here hx rfl (hb hby at_39) rfl (l' := #[.val (.int q1), .val (.int q2), .val (.int q3), .val (.int q4), .val (.int v3), .val (.int (0 : Int32)), .val (.int (0 : Int32)), .unset, .unset, .unset, .unset, .unset]) rfl k) ?_
      refine own_go (mkF m 43 #[.val (.int q1), .val (.int q2), .val (.int q3), .val (.int q4), .val (.int v3), .val (.int (0 : Int32)), .val (.int (0 : Int32)), .unset, .unset, .unset, .unset, .unset] [(.int v3)]) (fun t k => XS.iload X0.here hx rfl (hb hby at_41) rfl k) ?_
      by_cases c43 : v3.toInt ≤ 0
      · skip
        refine own_go (mkF m 58 #[.val (.int q1), .val (.int q2), .val (.int q3), .val (.int q4), .val (.int v3), .val (.int (0 : Int32)), .val (.int (0 : Int32)), .unset, .unset, .unset, .unset, .unset] []) (fun t k => XS.ifYes X0.here hx rfl (pc0 := 43) (pc' := 58) rfl (hb hby at_43) rfl (own_zT (cd := .le) c43) (by decide) (by decide) k) ?_
        refine own_go (mkF m 59 #[.val (.int q1), .val (.int q2), .val (.int q3), .val (.int q4), .val (.int v3), .val (.int (0 : Int32)), .val (.int (0 : Int32)), .unset, .unset, .unset, .unset, .unset] [(.int (0 : Int32))]) (fun t k => XS.iconst X0.here hx rfl (hb hby at_58) k) ?_
        refine own_go (mkF m 61 #[.val (.int q1), .val (.int q2), .val (.int q3), .val (.int q4), .val (.int v3), .val (.int (0 : Int32)), .val (.int (0 : Int32)), .val (.int (0 : Int32)), .unset, .unset, .unset, .unset] []) (fun t k => XS.istore X0.here hx rfl (hb hby at_59) rfl (l' := #[.val (.int q1), .val (.int q2), .val (.int q3), .val (.int q4), .val (.int v3), .val (.int (0 : Int32)), .val (.int (0 : Int32)), .val (.int (0 : Int32)), .unset, .unset, .unset, .unset]) rfl k) ?_
        obtain ⟨T61, h61, X61, e61, E61, A61, D61, -, st61⟩ := newO X0 hx hZ hown (hw _ (List.mem_of_getElem? (i := 0) rfl)) (hw _ (List.mem_of_getElem? (i := 1) rfl)) (hw _ (List.mem_of_getElem? (i := 2) rfl)) e0 (g := (mkF m 61 #[.val (.int q1), .val (.int q2), .val (.int q3), .val (.int q4), .val (.int v3), .val (.int (0 : Int32)), .val (.int (0 : Int32)), .val (.int (0 : Int32)), .unset, .unset, .unset, .unset] [])) rfl (hb hby at_61) (by decide) (by decide)
        obtain ⟨b61, g61⟩ : ∃ z, z = h0.size := ⟨_, rfl⟩
        rw [← g61] at A61 D61 st61
        have gb61 : n0 ≤ b61 := Nat.le_trans Z0 (Nat.le_of_eq g61.symm)
        have Z0_61 : n0 ≤ h61.size := Nat.le_trans Z0 E61.1
        have F_ids_b61 : Fld Z h61 b61 "com/example/chronoquorum/chronoquorum/LiveNodes" "ids" "[I" (.null) := D61 (Or.inl (hw _ (List.mem_of_getElem? (i := 11) rfl))) (ty := (.array .int)) (by decide)
        have F_positions_b61 : Fld Z h61 b61 "com/example/chronoquorum/chronoquorum/LiveNodes" "positions" "[I" (.null) := D61 (Or.inl (hw _ (List.mem_of_getElem? (i := 13) rfl))) (ty := (.array .int)) (by decide)
        have F_lastId_b61 : Fld Z h61 b61 "com/example/chronoquorum/chronoquorum/LiveNodes" "lastId" "I" (.int (0 : Int32)) := D61 (Or.inl (hw _ (List.mem_of_getElem? (i := 20) rfl))) (ty := .int) (by decide)
        have F_size_b61 : Fld Z h61 b61 "com/example/chronoquorum/chronoquorum/LiveNodes" "size" "I" (.int (0 : Int32)) := D61 (Or.inl (hw _ (List.mem_of_getElem? (i := 37) rfl))) (ty := .int) (by decide)
        refine own_go (T' := T61) (mkF m 64 #[.val (.int q1), .val (.int q2), .val (.int q3), .val (.int q4), .val (.int v3), .val (.int (0 : Int32)), .val (.int (0 : Int32)), .val (.int (0 : Int32)), .unset, .unset, .unset, .unset] [(.ref b61)]) st61 ?_
        refine own_go (mkF m 65 #[.val (.int q1), .val (.int q2), .val (.int q3), .val (.int q4), .val (.int v3), .val (.int (0 : Int32)), .val (.int (0 : Int32)), .val (.int (0 : Int32)), .unset, .unset, .unset, .unset] [(.ref b61), (.ref b61)]) (fun t k => XS.dup X61.here hx rfl (hb hby at_64) rfl rfl k) ?_
        refine own_go (mkF m 67 #[.val (.int q1), .val (.int q2), .val (.int q3), .val (.int q4), .val (.int v3), .val (.int (0 : Int32)), .val (.int (0 : Int32)), .val (.int (0 : Int32)), .unset, .unset, .unset, .unset] [(.int v3), (.ref b61), (.ref b61)]) (fun t k => XS.iload X61.here hx rfl (hb hby at_65) rfl k) ?_
        refine own_callI X61 hx hZ (y := (⟨"com/example/chronoquorum/chronoquorum/LiveNodes", "<init>", "(I)V"⟩ : MethodName)) hown rfl (hw _ (List.mem_of_getElem? (i := 3) rfl)) (hw _ (List.mem_of_getElem? (i := 4) rfl)) (hw _ (List.mem_of_getElem? (i := 2) rfl)) (hw _ (List.mem_of_getElem? (i := 5) rfl)) (by decide) e61 (rm1 l Z a0 hw [] b61 v3 h61 n0 Z0_61 A61 F_ids_b61 F_positions_b61 F_lastId_b61 F_size_b61 gb61 (by omega)) 1 (by decide) (by decide) (by decide) (by decide) (g := (mkF m 67 #[.val (.int q1), .val (.int q2), .val (.int q3), .val (.int q4), .val (.int v3), .val (.int (0 : Int32)), .val (.int (0 : Int32)), .val (.int (0 : Int32)), .unset, .unset, .unset, .unset] [(.int v3), (.ref b61), (.ref b61)])) rfl (by rw [hml]; rfl) b61 [(.int v3)] [(.ref b61)] (lenOf pd0_0 rfl) rfl rfl (by show 2 * 0 + _ ≤ _; exact Nat.le_of_eq rfl) (hb hby at_67) ?_
        intro rv67 T67 h67 L67 X67 e67 hQ67
        obtain ⟨rfl, NQ67, KQ67, ai, ap, sz, la, nI, nP, I, P, EQ, Fi, Fp, Fs, Fl, Ai, Ap, gai, gap, ne1, ne2, ne3, hsz, hla, hnI, hnP, hini⟩ := hQ67
        have Z67 : n0 ≤ h67.size := Nat.le_trans Z0_61 KQ67.1
        have rsz := rng32 sz
        have rla := rng32 la
        have V0 : own_V sz.toInt la.toInt I P := by rw [hsz, hla]; exact own_V_start (by omega) hini
        have D0 : own_D P la.toInt 0 0 := by rw [hla]; exact own_D0 hini.2
        have N67 := Fr.app N0 NQ67
        show own_Ends p e below s room_1.cells room_1.slots (Q0 Z q1 q2 q3 q4 h0 n0) T67 (mkF m 70 #[.val (.int q1), .val (.int q2), .val (.int q3), .val (.int q4), .val (.int v3), .val (.int (0 : Int32)), .val (.int (0 : Int32)), .val (.int (0 : Int32)), .unset, .unset, .unset, .unset] [(.ref b61)])
        have PX0 : own_X P v3.toInt v3.toInt 0 0 0 := own_X0 hini.2
        have r3' : 0 ≤ v3.toInt ∧ v3.toInt ≤ 7 := by omega
        clear f3
        refine own_go (mkF m 72 #[.val (.int q1), .val (.int q2), .val (.int q3), .val (.int q4), .val (.int v3), .val (.int (0 : Int32)), .val (.int (0 : Int32)), .val (.int (0 : Int32)), .val (.ref b61), .unset, .unset, .unset] []) (fun t k => XS.astore X67.here hx rfl (hb hby at_70) rfl rfl (l' := #[.val (.int q1), .val (.int q2), .val (.int q3), .val (.int q4), .val (.int v3), .val (.int (0 : Int32)), .val (.int (0 : Int32)), .val (.int (0 : Int32)), .val (.ref b61), .unset, .unset, .unset]) rfl k) ?_
        refine own_go (mkF m 74 #[.val (.int q1), .val (.int q2), .val (.int q3), .val (.int q4), .val (.int v3), .val (.int (0 : Int32)), .val (.int (0 : Int32)), .val (.int (0 : Int32)), .val (.ref b61), .unset, .unset, .unset] [(.int (0 : Int32))]) (fun t k => XS.iload X67.here hx rfl (hb hby at_72) rfl k) ?_
        refine own_go (mkF m 84 #[.val (.int q1), .val (.int q2), .val (.int q3), .val (.int q4), .val (.int v3), .val (.int (0 : Int32)), .val (.int (0 : Int32)), .val (.int (0 : Int32)), .val (.ref b61), .unset, .unset, .unset] []) (fun t k => XS.ifYes X67.here hx rfl (pc0 := 74) (pc' := 84) rfl (hb hby at_74) rfl (by decide) (by decide) (by decide) k) ?_
        refine own_go (mkF m 86 #[.val (.int q1), .val (.int q2), .val (.int q3), .val (.int q4), .val (.int v3), .val (.int (0 : Int32)), .val (.int (0 : Int32)), .val (.int (0 : Int32)), .val (.ref b61), .unset, .unset, .unset] [(.int (0 : Int32))]) (fun t k => XS.iload X67.here hx rfl (hb hby at_84) rfl k) ?_
        refine own_go (mkF m 95 #[.val (.int q1), .val (.int q2), .val (.int q3), .val (.int q4), .val (.int v3), .val (.int (0 : Int32)), .val (.int (0 : Int32)), .val (.int (0 : Int32)), .val (.ref b61), .unset, .unset, .unset] []) (fun t k => XS.ifYes X67.here hx rfl (pc0 := 86) (pc' := 95) rfl (hb hby at_86) rfl (by decide) (by decide) (by decide) k) ?_
        refine own_go (mkF m 96 #[.val (.int q1), .val (.int q2), .val (.int q3), .val (.int q4), .val (.int v3), .val (.int (0 : Int32)), .val (.int (0 : Int32)), .val (.int (0 : Int32)), .val (.ref b61), .unset, .unset, .unset] [(.int q2)]) (fun t k => XS.iloadN X67.here hx rfl (hb hby at_95) rfl k) ?_
        refine own_go (mkF m 98 #[.val (.int q1), .val (.int q2), .val (.int q3), .val (.int q4), .val (.int v3), .val (.int (0 : Int32)), .val (.int (0 : Int32)), .val (.int (0 : Int32)), .val (.ref b61), .unset, .unset, .unset] [(.int (15 : Int32)), (.int q2)]) (fun t k => XS.bipush X67.here hx rfl (hb hby at_96) k) ?_
        refine own_go (mkF m 99 #[.val (.int q1), .val (.int q2), .val (.int q3), .val (.int q4), .val (.int v3), .val (.int (0 : Int32)), .val (.int (0 : Int32)), .val (.int (0 : Int32)), .val (.ref b61), .unset, .unset, .unset] [(.int (q2 &&& (15 : Int32)))]) (fun t k => XS.iand X67.here hx rfl (hb hby at_98) rfl k) ?_
        generalize hv98 : (q2 &&& (15 : Int32)) = v98
        have f98 : v98.toInt = q2.toInt % 16 := by rw [← hv98]; exact c_mask q2 (15 : Int32) 4 (by decide) (by decide)
        have r98 := rng32 v98
        refine own_go (mkF m 100 #[.val (.int q1), .val (.int q2), .val (.int q3), .val (.int q4), .val (.int v3), .val (.int (0 : Int32)), .val (.int (0 : Int32)), .val (.int (0 : Int32)), .val (.ref b61), .unset, .unset, .unset] [(.int (1 : Int32)), (.int v98)]) (fun t k => XS.iconst X67.here hx rfl (hb hby at_99) k) ?_
        refine own_go (mkF m 101 #[.val (.int q1), .val (.int q2), .val (.int q3), .val (.int q4), .val (.int v3), .val (.int (0 : Int32)), .val (.int (0 : Int32)), .val (.int (0 : Int32)), .val (.ref b61), .unset, .unset, .unset] [(.int (v98 - (1 : Int32)))]) (fun t k => XS.isub X67.here hx rfl (hb hby at_100) rfl k) ?_
        generalize hv100 : (v98 - (1 : Int32)) = v100
        have f100 : (v100.toInt - (v98.toInt - 1)) % 4294967296 = 0 := by rw [← hv100]; exact c_isub v98 (1 : Int32)
        have r100 := rng32 v100
        refine own_go (mkF m 103 #[.val (.int q1), .val (.int q2), .val (.int q3), .val (.int q4), .val (.int v3), .val (.int (0 : Int32)), .val (.int (0 : Int32)), .val (.int (0 : Int32)), .val (.ref b61), .val (.int v100), .unset, .unset] []) (fun t k => XS.istore X67.here hx rfl (hb hby at_101) rfl (l' := #[.val (.int q1), .val (.int q2), .val (.int q3), .val (.int q4), .val (.int v3), .val (.int (0 : Int32)), .val (.int (0 : Int32)), .val (.int (0 : Int32)), .val (.ref b61), .val (.int v100), .unset, .unset]) rfl k) ?_
        refine own_go (mkF m 105 #[.val (.int q1), .val (.int q2), .val (.int q3), .val (.int q4), .val (.int v3), .val (.int (0 : Int32)), .val (.int (0 : Int32)), .val (.int (0 : Int32)), .val (.ref b61), .val (.int v100), .unset, .unset] [(.ref b61)]) (fun t k => XS.aload X67.here hx rfl (hb hby at_103) rfl rfl k) ?_
        refine own_go (mkF m 106 #[.val (.int q1), .val (.int q2), .val (.int q3), .val (.int q4), .val (.int v3), .val (.int (0 : Int32)), .val (.int (0 : Int32)), .val (.int (0 : Int32)), .val (.ref b61), .val (.int v100), .unset, .unset] [(.int q4), (.ref b61)]) (fun t k => XS.iloadN X67.here hx rfl (hb hby at_105) rfl k) ?_
        refine own_callV X67 hx hZ (y := (⟨"com/example/chronoquorum/chronoquorum/LiveNodes", "positionOf", "(I)I"⟩ : MethodName)) hown (hw _ (List.mem_of_getElem? (i := 14) rfl)) (hw _ (List.mem_of_getElem? (i := 15) rfl)) (hw _ (List.mem_of_getElem? (i := 17) rfl)) (hw _ (List.mem_of_getElem? (i := 16) rfl)) (hw _ (List.mem_of_getElem? (i := 2) rfl)) (hw _ (List.mem_of_getElem? (i := 18) rfl)) (by decide) e67 b61 EQ (rm4 l Z a0 hw [] b61 q4 ap la nP P h67 n0 Z67 EQ Fp Fl Ap (by omega) ) 0 (by decide) (by decide) (by decide) (by decide) (g := (mkF m 106 #[.val (.int q1), .val (.int q2), .val (.int q3), .val (.int q4), .val (.int v3), .val (.int (0 : Int32)), .val (.int (0 : Int32)), .val (.int (0 : Int32)), .val (.ref b61), .val (.int v100), .unset, .unset] [(.int q4), (.ref b61)])) rfl (by rw [hml]; rfl) [(.int q4)] [] (lenOf pd0_1 rfl) rfl rfl (by show 2 * 0 + _ ≤ _; exact Nat.le_of_eq rfl) (hb hby at_106) ?_
        intro rv106 T106 h106 L106 X106 e106 hQ106
        obtain ⟨⟨rp106, rfl, hr106⟩, NQ106, eq106⟩ := hQ106
        rw [eq106] at e106
        have rr106 := rng32 rp106
        have N106 := Fr.app N67 NQ106
        show own_Ends p e below s room_1.cells room_1.slots (Q0 Z q1 q2 q3 q4 h0 n0) T106 (mkF m 109 #[.val (.int q1), .val (.int q2), .val (.int q3), .val (.int q4), .val (.int v3), .val (.int (0 : Int32)), .val (.int (0 : Int32)), .val (.int (0 : Int32)), .val (.ref b61), .val (.int v100), .unset, .unset] [(.int rp106)])
        refine own_go (mkF m 110 #[.val (.int q1), .val (.int q2), .val (.int q3), .val (.int q4), .val (.int v3), .val (.int (0 : Int32)), .val (.int (0 : Int32)), .val (.int (0 : Int32)), .val (.ref b61), .val (.int v100), .unset, .unset] [(.int q4), (.int rp106)]) (fun t k => XS.iloadN X106.here hx rfl (hb hby at_109) rfl k) ?_
        refine own_go (mkF m 112 #[.val (.int q1), .val (.int q2), .val (.int q3), .val (.int q4), .val (.int v3), .val (.int (0 : Int32)), .val (.int (0 : Int32)), .val (.int (0 : Int32)), .val (.ref b61), .val (.int v100), .unset, .unset] [(.int v3), (.int q4), (.int rp106)]) (fun t k => XS.iload X106.here hx rfl (hb hby at_110) rfl k) ?_
        refine own_go (mkF m 114 #[.val (.int q1), .val (.int q2), .val (.int q3), .val (.int q4), .val (.int v3), .val (.int (0 : Int32)), .val (.int (0 : Int32)), .val (.int (0 : Int32)), .val (.ref b61), .val (.int v100), .unset, .unset] [(.int (0 : Int32)), (.int v3), (.int q4), (.int rp106)]) (fun t k => XS.iload X106.here hx rfl (hb hby at_112) rfl k) ?_
        refine own_go (mkF m 116 #[.val (.int q1), .val (.int q2), .val (.int q3), .val (.int q4), .val (.int v3), .val (.int (0 : Int32)), .val (.int (0 : Int32)), .val (.int (0 : Int32)), .val (.ref b61), .val (.int v100), .unset, .unset] [(.int (0 : Int32)), (.int (0 : Int32)), (.int v3), (.int q4), (.int rp106)]) (fun t k => XS.iload X106.here hx rfl (hb hby at_114) rfl k) ?_
        refine own_go (mkF m 118 #[.val (.int q1), .val (.int q2), .val (.int q3), .val (.int q4), .val (.int v3), .val (.int (0 : Int32)), .val (.int (0 : Int32)), .val (.int (0 : Int32)), .val (.ref b61), .val (.int v100), .unset, .unset] [(.int (0 : Int32)), (.int (0 : Int32)), (.int (0 : Int32)), (.int v3), (.int q4), (.int rp106)]) (fun t k => XS.iload X106.here hx rfl (hb hby at_116) rfl k) ?_
        have lt118_2 : (0 : Int32).toInt = 0 := rfl
        have lt118_3 : (0 : Int32).toInt = 0 := rfl
        have lt118_4 : (0 : Int32).toInt = 0 := rfl
        refine own_callS X106 hx hZ (y := (⟨"com/example/chronoquorum/chronoquorum/LiveNodesPositionOfPinLaw", "expected", "(IIZIZ)I"⟩ : MethodName)) hown (hw _ (List.mem_of_getElem? (i := 21) rfl)) (hw _ (List.mem_of_getElem? (i := 22) rfl)) (hw _ (List.mem_of_getElem? (i := 23) rfl)) (hw _ (List.mem_of_getElem? (i := 24) rfl)) (by decide) e106 (rmE l Z a0 hw [] q4 v3 (0 : Int32) (0 : Int32) (0 : Int32) h67 n0 Z67 (by omega)) 1 (by decide) (by decide) (by decide) (by decide) (g := (mkF m 118 #[.val (.int q1), .val (.int q2), .val (.int q3), .val (.int q4), .val (.int v3), .val (.int (0 : Int32)), .val (.int (0 : Int32)), .val (.int (0 : Int32)), .val (.ref b61), .val (.int v100), .unset, .unset] [(.int (0 : Int32)), (.int (0 : Int32)), (.int (0 : Int32)), (.int v3), (.int q4), (.int rp106)])) rfl (by rw [hml]; rfl) [(.int q4), (.int v3), (.int (0 : Int32)), (.int (0 : Int32)), (.int (0 : Int32))] [(.int rp106)] (lenOf pd0_2 rfl) rfl rfl (by show 2 * 0 + _ ≤ _; exact Nat.le_of_eq rfl) (hb hby at_118) ?_
        intro rv118 T118 h118 L118 X118 e118 hQ118
        obtain ⟨⟨re118, rfl, hr118⟩, NQ118, eq118⟩ := hQ118
        rw [eq118] at e118
        have N118 := Fr.app N106 NQ118
        show own_Ends p e below s room_1.cells room_1.slots (Q0 Z q1 q2 q3 q4 h0 n0) T118 (mkF m 121 #[.val (.int q1), .val (.int q2), .val (.int q3), .val (.int q4), .val (.int v3), .val (.int (0 : Int32)), .val (.int (0 : Int32)), .val (.int (0 : Int32)), .val (.ref b61), .val (.int v100), .unset, .unset] [(.int re118), (.int rp106)])
        have c121 : rp106.toInt = re118.toInt := own_pos0 hr106 hr118 PX0 (by omega)
        refine own_go (mkF m 124 #[.val (.int q1), .val (.int q2), .val (.int q3), .val (.int q4), .val (.int v3), .val (.int (0 : Int32)), .val (.int (0 : Int32)), .val (.int (0 : Int32)), .val (.ref b61), .val (.int v100), .unset, .unset] []) (fun t k => XS.icmpNo X118.here hx rfl (hb hby at_121) rfl (own_icF (cd := .ne) (fun q => q c121)) k) ?_
        refine own_go (mkF m 125 #[.val (.int q1), .val (.int q2), .val (.int q3), .val (.int q4), .val (.int v3), .val (.int (0 : Int32)), .val (.int (0 : Int32)), .val (.int (0 : Int32)), .val (.ref b61), .val (.int v100), .unset, .unset] [(.int (1 : Int32))]) (fun t k => XS.iconst X118.here hx rfl (hb hby at_124) k) ?_
        refine own_go (mkF m 129 #[.val (.int q1), .val (.int q2), .val (.int q3), .val (.int q4), .val (.int v3), .val (.int (0 : Int32)), .val (.int (0 : Int32)), .val (.int (0 : Int32)), .val (.ref b61), .val (.int v100), .unset, .unset] [(.int (1 : Int32))]) (fun t k => XS.goto X118.here hx rfl (pc0 := 125) (pc' := 129) rfl (hb hby at_125) (by decide) (by decide) k) ?_
        refine own_go (mkF m 131 #[.val (.int q1), .val (.int q2), .val (.int q3), .val (.int q4), .val (.int v3), .val (.int (0 : Int32)), .val (.int (0 : Int32)), .val (.int (0 : Int32)), .val (.ref b61), .val (.int v100), .val (.int (1 : Int32)), .unset] []) (fun t k => XS.istore X118.here hx rfl (hb hby at_129) rfl (l' := #[.val (.int q1), .val (.int q2), .val (.int q3), .val (.int q4), .val (.int v3), .val (.int (0 : Int32)), .val (.int (0 : Int32)), .val (.int (0 : Int32)), .val (.ref b61), .val (.int v100), .val (.int (1 : Int32)), .unset]) rfl k) ?_
        refine own_go (mkF m 133 #[.val (.int q1), .val (.int q2), .val (.int q3), .val (.int q4), .val (.int v3), .val (.int (0 : Int32)), .val (.int (0 : Int32)), .val (.int (0 : Int32)), .val (.ref b61), .val (.int v100), .val (.int (1 : Int32)), .unset] [(.ref b61)]) (fun t k => XS.aload X118.here hx rfl (hb hby at_131) rfl rfl k) ?_
        refine own_go (mkF m 135 #[.val (.int q1), .val (.int q2), .val (.int q3), .val (.int q4), .val (.int v3), .val (.int (0 : Int32)), .val (.int (0 : Int32)), .val (.int (0 : Int32)), .val (.ref b61), .val (.int v100), .val (.int (1 : Int32)), .unset] [(.int v100), (.ref b61)]) (fun t k => XS.iload X118.here hx rfl (hb hby at_133) rfl k) ?_
        refine own_callV X118 hx hZ (y := (⟨"com/example/chronoquorum/chronoquorum/LiveNodes", "positionOf", "(I)I"⟩ : MethodName)) hown (hw _ (List.mem_of_getElem? (i := 14) rfl)) (hw _ (List.mem_of_getElem? (i := 15) rfl)) (hw _ (List.mem_of_getElem? (i := 17) rfl)) (hw _ (List.mem_of_getElem? (i := 16) rfl)) (hw _ (List.mem_of_getElem? (i := 2) rfl)) (hw _ (List.mem_of_getElem? (i := 18) rfl)) (by decide) e118 b61 EQ (rm4 l Z a0 hw [] b61 v100 ap la nP P h67 n0 Z67 EQ Fp Fl Ap (by omega) ) 0 (by decide) (by decide) (by decide) (by decide) (g := (mkF m 135 #[.val (.int q1), .val (.int q2), .val (.int q3), .val (.int q4), .val (.int v3), .val (.int (0 : Int32)), .val (.int (0 : Int32)), .val (.int (0 : Int32)), .val (.ref b61), .val (.int v100), .val (.int (1 : Int32)), .unset] [(.int v100), (.ref b61)])) rfl (by rw [hml]; rfl) [(.int v100)] [] (lenOf pd0_1 rfl) rfl rfl (by show 2 * 0 + _ ≤ _; exact Nat.le_of_eq rfl) (hb hby at_135) ?_
        intro rv135 T135 h135 L135 X135 e135 hQ135
        obtain ⟨⟨rp135, rfl, hr135⟩, NQ135, eq135⟩ := hQ135
        rw [eq135] at e135
        have rr135 := rng32 rp135
        have N135 := Fr.app N118 NQ135
        show own_Ends p e below s room_1.cells room_1.slots (Q0 Z q1 q2 q3 q4 h0 n0) T135 (mkF m 138 #[.val (.int q1), .val (.int q2), .val (.int q3), .val (.int q4), .val (.int v3), .val (.int (0 : Int32)), .val (.int (0 : Int32)), .val (.int (0 : Int32)), .val (.ref b61), .val (.int v100), .val (.int (1 : Int32)), .unset] [(.int rp135)])
        refine own_go (mkF m 140 #[.val (.int q1), .val (.int q2), .val (.int q3), .val (.int q4), .val (.int v3), .val (.int (0 : Int32)), .val (.int (0 : Int32)), .val (.int (0 : Int32)), .val (.ref b61), .val (.int v100), .val (.int (1 : Int32)), .unset] [(.int v100), (.int rp135)]) (fun t k => XS.iload X135.here hx rfl (hb hby at_138) rfl k) ?_
        refine own_go (mkF m 142 #[.val (.int q1), .val (.int q2), .val (.int q3), .val (.int q4), .val (.int v3), .val (.int (0 : Int32)), .val (.int (0 : Int32)), .val (.int (0 : Int32)), .val (.ref b61), .val (.int v100), .val (.int (1 : Int32)), .unset] [(.int v3), (.int v100), (.int rp135)]) (fun t k => XS.iload X135.here hx rfl (hb hby at_140) rfl k) ?_
        refine own_go (mkF m 144 #[.val (.int q1), .val (.int q2), .val (.int q3), .val (.int q4), .val (.int v3), .val (.int (0 : Int32)), .val (.int (0 : Int32)), .val (.int (0 : Int32)), .val (.ref b61), .val (.int v100), .val (.int (1 : Int32)), .unset] [(.int (0 : Int32)), (.int v3), (.int v100), (.int rp135)]) (fun t k => XS.iload X135.here hx rfl (hb hby at_142) rfl k) ?_
        refine own_go (mkF m 146 #[.val (.int q1), .val (.int q2), .val (.int q3), .val (.int q4), .val (.int v3), .val (.int (0 : Int32)), .val (.int (0 : Int32)), .val (.int (0 : Int32)), .val (.ref b61), .val (.int v100), .val (.int (1 : Int32)), .unset] [(.int (0 : Int32)), (.int (0 : Int32)), (.int v3), (.int v100), (.int rp135)]) (fun t k => XS.iload X135.here hx rfl (hb hby at_144) rfl k) ?_
        refine own_go (mkF m 148 #[.val (.int q1), .val (.int q2), .val (.int q3), .val (.int q4), .val (.int v3), .val (.int (0 : Int32)), .val (.int (0 : Int32)), .val (.int (0 : Int32)), .val (.ref b61), .val (.int v100), .val (.int (1 : Int32)), .unset] [(.int (0 : Int32)), (.int (0 : Int32)), (.int (0 : Int32)), (.int v3), (.int v100), (.int rp135)]) (fun t k => XS.iload X135.here hx rfl (hb hby at_146) rfl k) ?_
        have lt148_2 : (0 : Int32).toInt = 0 := rfl
        have lt148_3 : (0 : Int32).toInt = 0 := rfl
        have lt148_4 : (0 : Int32).toInt = 0 := rfl
        refine own_callS X135 hx hZ (y := (⟨"com/example/chronoquorum/chronoquorum/LiveNodesPositionOfPinLaw", "expected", "(IIZIZ)I"⟩ : MethodName)) hown (hw _ (List.mem_of_getElem? (i := 21) rfl)) (hw _ (List.mem_of_getElem? (i := 22) rfl)) (hw _ (List.mem_of_getElem? (i := 23) rfl)) (hw _ (List.mem_of_getElem? (i := 24) rfl)) (by decide) e135 (rmE l Z a0 hw [] v100 v3 (0 : Int32) (0 : Int32) (0 : Int32) h67 n0 Z67 (by omega)) 1 (by decide) (by decide) (by decide) (by decide) (g := (mkF m 148 #[.val (.int q1), .val (.int q2), .val (.int q3), .val (.int q4), .val (.int v3), .val (.int (0 : Int32)), .val (.int (0 : Int32)), .val (.int (0 : Int32)), .val (.ref b61), .val (.int v100), .val (.int (1 : Int32)), .unset] [(.int (0 : Int32)), (.int (0 : Int32)), (.int (0 : Int32)), (.int v3), (.int v100), (.int rp135)])) rfl (by rw [hml]; rfl) [(.int v100), (.int v3), (.int (0 : Int32)), (.int (0 : Int32)), (.int (0 : Int32))] [(.int rp135)] (lenOf pd0_2 rfl) rfl rfl (by show 2 * 0 + _ ≤ _; exact Nat.le_of_eq rfl) (hb hby at_148) ?_
        intro rv148 T148 h148 L148 X148 e148 hQ148
        obtain ⟨⟨re148, rfl, hr148⟩, NQ148, eq148⟩ := hQ148
        rw [eq148] at e148
        have N148 := Fr.app N135 NQ148
        show own_Ends p e below s room_1.cells room_1.slots (Q0 Z q1 q2 q3 q4 h0 n0) T148 (mkF m 151 #[.val (.int q1), .val (.int q2), .val (.int q3), .val (.int q4), .val (.int v3), .val (.int (0 : Int32)), .val (.int (0 : Int32)), .val (.int (0 : Int32)), .val (.ref b61), .val (.int v100), .val (.int (1 : Int32)), .unset] [(.int re148), (.int rp135)])
        have c151 : rp135.toInt = re148.toInt := own_pos0 hr135 hr148 PX0 (by omega)
        refine own_go (mkF m 154 #[.val (.int q1), .val (.int q2), .val (.int q3), .val (.int q4), .val (.int v3), .val (.int (0 : Int32)), .val (.int (0 : Int32)), .val (.int (0 : Int32)), .val (.ref b61), .val (.int v100), .val (.int (1 : Int32)), .unset] []) (fun t k => XS.icmpNo X148.here hx rfl (hb hby at_151) rfl (own_icF (cd := .ne) (fun q => q c151)) k) ?_
        refine own_go (mkF m 155 #[.val (.int q1), .val (.int q2), .val (.int q3), .val (.int q4), .val (.int v3), .val (.int (0 : Int32)), .val (.int (0 : Int32)), .val (.int (0 : Int32)), .val (.ref b61), .val (.int v100), .val (.int (1 : Int32)), .unset] [(.int (1 : Int32))]) (fun t k => XS.iconst X148.here hx rfl (hb hby at_154) k) ?_
        refine own_go (mkF m 159 #[.val (.int q1), .val (.int q2), .val (.int q3), .val (.int q4), .val (.int v3), .val (.int (0 : Int32)), .val (.int (0 : Int32)), .val (.int (0 : Int32)), .val (.ref b61), .val (.int v100), .val (.int (1 : Int32)), .unset] [(.int (1 : Int32))]) (fun t k => XS.goto X148.here hx rfl (pc0 := 155) (pc' := 159) rfl (hb hby at_155) (by decide) (by decide) k) ?_
        refine own_go (mkF m 161 #[.val (.int q1), .val (.int q2), .val (.int q3), .val (.int q4), .val (.int v3), .val (.int (0 : Int32)), .val (.int (0 : Int32)), .val (.int (0 : Int32)), .val (.ref b61), .val (.int v100), .val (.int (1 : Int32)), .val (.int (1 : Int32))] []) (fun t k => XS.istore X148.here hx rfl (hb hby at_159) rfl (l' := #[.val (.int q1), .val (.int q2), .val (.int q3), .val (.int q4), .val (.int v3), .val (.int (0 : Int32)), .val (.int (0 : Int32)), .val (.int (0 : Int32)), .val (.ref b61), .val (.int v100), .val (.int (1 : Int32)), .val (.int (1 : Int32))]) rfl k) ?_
        refine own_go (mkF m 163 #[.val (.int q1), .val (.int q2), .val (.int q3), .val (.int q4), .val (.int v3), .val (.int (0 : Int32)), .val (.int (0 : Int32)), .val (.int (0 : Int32)), .val (.ref b61), .val (.int v100), .val (.int (1 : Int32)), .val (.int (1 : Int32))] [(.int (1 : Int32))]) (fun t k => XS.iload X148.here hx rfl (hb hby at_161) rfl k) ?_
        refine own_go (mkF m 166 #[.val (.int q1), .val (.int q2), .val (.int q3), .val (.int q4), .val (.int v3), .val (.int (0 : Int32)), .val (.int (0 : Int32)), .val (.int (0 : Int32)), .val (.ref b61), .val (.int v100), .val (.int (1 : Int32)), .val (.int (1 : Int32))] []) (fun t k => XS.ifNo X148.here hx rfl (hb hby at_163) rfl (by decide) k) ?_
        refine own_go (mkF m 168 #[.val (.int q1), .val (.int q2), .val (.int q3), .val (.int q4), .val (.int v3), .val (.int (0 : Int32)), .val (.int (0 : Int32)), .val (.int (0 : Int32)), .val (.ref b61), .val (.int v100), .val (.int (1 : Int32)), .val (.int (1 : Int32))] [(.int (1 : Int32))]) (fun t k => XS.iload X148.here hx rfl (hb hby at_166) rfl k) ?_
        refine own_go (mkF m 171 #[.val (.int q1), .val (.int q2), .val (.int q3), .val (.int q4), .val (.int v3), .val (.int (0 : Int32)), .val (.int (0 : Int32)), .val (.int (0 : Int32)), .val (.ref b61), .val (.int v100), .val (.int (1 : Int32)), .val (.int (1 : Int32))] []) (fun t k => XS.ifNo X148.here hx rfl (hb hby at_168) rfl (by decide) k) ?_
        refine own_go (mkF m 172 #[.val (.int q1), .val (.int q2), .val (.int q3), .val (.int q4), .val (.int v3), .val (.int (0 : Int32)), .val (.int (0 : Int32)), .val (.int (0 : Int32)), .val (.ref b61), .val (.int v100), .val (.int (1 : Int32)), .val (.int (1 : Int32))] [(.int (1 : Int32))]) (fun t k => XS.iconst X148.here hx rfl (hb hby at_171) k) ?_
        refine own_go (mkF m 176 #[.val (.int q1), .val (.int q2), .val (.int q3), .val (.int q4), .val (.int v3), .val (.int (0 : Int32)), .val (.int (0 : Int32)), .val (.int (0 : Int32)), .val (.ref b61), .val (.int v100), .val (.int (1 : Int32)), .val (.int (1 : Int32))] [(.int (1 : Int32))]) (fun t k => XS.goto X148.here hx rfl (pc0 := 172) (pc' := 176) rfl (hb hby at_172) (by decide) (by decide) k) ?_
        refine own_retI X148 hx hlk hret (by simp) rfl (hb hby at_176) (by decide) (by decide) ?_
        rw [e148]
        exact ⟨rfl, N148⟩
      · skip
        refine own_go (mkF m 46 #[.val (.int q1), .val (.int q2), .val (.int q3), .val (.int q4), .val (.int v3), .val (.int (0 : Int32)), .val (.int (0 : Int32)), .unset, .unset, .unset, .unset, .unset] []) (fun t k => XS.ifNo X0.here hx rfl (hb hby at_43) rfl (own_zF (cd := .le) c43) k) ?_
        refine own_go (mkF m 47 #[.val (.int q1), .val (.int q2), .val (.int q3), .val (.int q4), .val (.int v3), .val (.int (0 : Int32)), .val (.int (0 : Int32)), .unset, .unset, .unset, .unset, .unset] [(.int q3)]) (fun t k => XS.iloadN X0.here hx rfl (hb hby at_46) rfl k) ?_
        refine own_go (mkF m 49 #[.val (.int q1), .val (.int q2), .val (.int q3), .val (.int q4), .val (.int v3), .val (.int (0 : Int32)), .val (.int (0 : Int32)), .unset, .unset, .unset, .unset, .unset] [(.int (2147483647 : Int32)), (.int q3)]) (fun t k => X0.ldcInt hx hown (mvT hZ (hw _ (List.mem_of_getElem? (i := 25) rfl))) (g := (mkF m 47 #[.val (.int q1), .val (.int q2), .val (.int q3), .val (.int q4), .val (.int v3), .val (.int (0 : Int32)), .val (.int (0 : Int32)), .unset, .unset, .unset, .unset, .unset] [(.int q3)])) rfl (hb hby at_47) _ k) ?_
        refine own_go (mkF m 50 #[.val (.int q1), .val (.int q2), .val (.int q3), .val (.int q4), .val (.int v3), .val (.int (0 : Int32)), .val (.int (0 : Int32)), .unset, .unset, .unset, .unset, .unset] [(.int (q3 &&& (2147483647 : Int32)))]) (fun t k => XS.iand X0.here hx rfl (hb hby at_49) rfl k) ?_
        generalize hv49 : (q3 &&& (2147483647 : Int32)) = v49
        have f49 : v49.toInt = q3.toInt % 2147483648 := by rw [← hv49]; exact c_mask q3 (2147483647 : Int32) 31 (by decide) (by decide)
        have r49 := rng32 v49
        refine own_go (mkF m 52 #[.val (.int q1), .val (.int q2), .val (.int q3), .val (.int q4), .val (.int v3), .val (.int (0 : Int32)), .val (.int (0 : Int32)), .unset, .unset, .unset, .unset, .unset] [(.int v3), (.int v49)]) (fun t k => XS.iload X0.here hx rfl (hb hby at_50) rfl k) ?_
        refine own_go (mkF m 53 #[.val (.int q1), .val (.int q2), .val (.int q3), .val (.int q4), .val (.int v3), .val (.int (0 : Int32)), .val (.int (0 : Int32)), .unset, .unset, .unset, .unset, .unset] [(.int (v49 % v3))]) (fun t k => Jvm.RoadKit.iremM X0 hx rfl (hb hby at_52) rfl (own_nz32 (by omega)) k) ?_
        generalize hv52 : (v49 % v3) = v52
        have f52 : 0 ≤ v49.toInt → 0 < v3.toInt → 0 ≤ v52.toInt ∧ v52.toInt < v3.toInt ∧ v52.toInt ≤ v49.toInt := by rw [← hv52]; exact own_iremV v49 v3
        have r52 := rng32 v52
        refine own_go (mkF m 54 #[.val (.int q1), .val (.int q2), .val (.int q3), .val (.int q4), .val (.int v3), .val (.int (0 : Int32)), .val (.int (0 : Int32)), .unset, .unset, .unset, .unset, .unset] [(.int (1 : Int32)), (.int v52)]) (fun t k => XS.iconst X0.here hx rfl (hb hby at_53) k) ?_
        refine own_go (mkF m 55 #[.val (.int q1), .val (.int q2), .val (.int q3), .val (.int q4), .val (.int v3), .val (.int (0 : Int32)), .val (.int (0 : Int32)), .unset, .unset, .unset, .unset, .unset] [(.int (v52 + (1 : Int32)))]) (fun t k => XS.iadd X0.here hx rfl (hb hby at_54) rfl k) ?_
        generalize hv54 : (v52 + (1 : Int32)) = v54
        have f54 : (v54.toInt - (v52.toInt + 1)) % 4294967296 = 0 := by rw [← hv54]; exact c_iadd v52 (1 : Int32)
        have r54 := rng32 v54
        have k54 : 1 ≤ v54.toInt ∧ v54.toInt ≤ v3.toInt := by omega
        clear f49 f52 f54 r49 r52 r54
        refine own_go (mkF m 59 #[.val (.int q1), .val (.int q2), .val (.int q3), .val (.int q4), .val (.int v3), .val (.int (0 : Int32)), .val (.int (0 : Int32)), .unset, .unset, .unset, .unset, .unset] [(.int v54)]) (fun t k => XS.goto X0.here hx rfl (pc0 := 55) (pc' := 59) rfl (hb hby at_55) (by decide) (by decide) k) ?_
        refine own_go (mkF m 61 #[.val (.int q1), .val (.int q2), .val (.int q3), .val (.int q4), .val (.int v3), .val (.int (0 : Int32)), .val (.int (0 : Int32)), .val (.int v54), .unset, .unset, .unset, .unset] []) (fun t k => XS.istore X0.here hx rfl (hb hby at_59) rfl (l' := #[.val (.int q1), .val (.int q2), .val (.int q3), .val (.int q4), .val (.int v3), .val (.int (0 : Int32)), .val (.int (0 : Int32)), .val (.int v54), .unset, .unset, .unset, .unset]) rfl k) ?_
        obtain ⟨T61, h61, X61, e61, E61, A61, D61, -, st61⟩ := newO X0 hx hZ hown (hw _ (List.mem_of_getElem? (i := 0) rfl)) (hw _ (List.mem_of_getElem? (i := 1) rfl)) (hw _ (List.mem_of_getElem? (i := 2) rfl)) e0 (g := (mkF m 61 #[.val (.int q1), .val (.int q2), .val (.int q3), .val (.int q4), .val (.int v3), .val (.int (0 : Int32)), .val (.int (0 : Int32)), .val (.int v54), .unset, .unset, .unset, .unset] [])) rfl (hb hby at_61) (by decide) (by decide)
        obtain ⟨b61, g61⟩ : ∃ z, z = h0.size := ⟨_, rfl⟩
        rw [← g61] at A61 D61 st61
        have gb61 : n0 ≤ b61 := Nat.le_trans Z0 (Nat.le_of_eq g61.symm)
        have Z0_61 : n0 ≤ h61.size := Nat.le_trans Z0 E61.1
        have F_ids_b61 : Fld Z h61 b61 "com/example/chronoquorum/chronoquorum/LiveNodes" "ids" "[I" (.null) := D61 (Or.inl (hw _ (List.mem_of_getElem? (i := 11) rfl))) (ty := (.array .int)) (by decide)
        have F_positions_b61 : Fld Z h61 b61 "com/example/chronoquorum/chronoquorum/LiveNodes" "positions" "[I" (.null) := D61 (Or.inl (hw _ (List.mem_of_getElem? (i := 13) rfl))) (ty := (.array .int)) (by decide)
        have F_lastId_b61 : Fld Z h61 b61 "com/example/chronoquorum/chronoquorum/LiveNodes" "lastId" "I" (.int (0 : Int32)) := D61 (Or.inl (hw _ (List.mem_of_getElem? (i := 20) rfl))) (ty := .int) (by decide)
        have F_size_b61 : Fld Z h61 b61 "com/example/chronoquorum/chronoquorum/LiveNodes" "size" "I" (.int (0 : Int32)) := D61 (Or.inl (hw _ (List.mem_of_getElem? (i := 37) rfl))) (ty := .int) (by decide)
        refine own_go (T' := T61) (mkF m 64 #[.val (.int q1), .val (.int q2), .val (.int q3), .val (.int q4), .val (.int v3), .val (.int (0 : Int32)), .val (.int (0 : Int32)), .val (.int v54), .unset, .unset, .unset, .unset] [(.ref b61)]) st61 ?_
        refine own_go (mkF m 65 #[.val (.int q1), .val (.int q2), .val (.int q3), .val (.int q4), .val (.int v3), .val (.int (0 : Int32)), .val (.int (0 : Int32)), .val (.int v54), .unset, .unset, .unset, .unset] [(.ref b61), (.ref b61)]) (fun t k => XS.dup X61.here hx rfl (hb hby at_64) rfl rfl k) ?_
        refine own_go (mkF m 67 #[.val (.int q1), .val (.int q2), .val (.int q3), .val (.int q4), .val (.int v3), .val (.int (0 : Int32)), .val (.int (0 : Int32)), .val (.int v54), .unset, .unset, .unset, .unset] [(.int v3), (.ref b61), (.ref b61)]) (fun t k => XS.iload X61.here hx rfl (hb hby at_65) rfl k) ?_
        refine own_callI X61 hx hZ (y := (⟨"com/example/chronoquorum/chronoquorum/LiveNodes", "<init>", "(I)V"⟩ : MethodName)) hown rfl (hw _ (List.mem_of_getElem? (i := 3) rfl)) (hw _ (List.mem_of_getElem? (i := 4) rfl)) (hw _ (List.mem_of_getElem? (i := 2) rfl)) (hw _ (List.mem_of_getElem? (i := 5) rfl)) (by decide) e61 (rm1 l Z a0 hw [] b61 v3 h61 n0 Z0_61 A61 F_ids_b61 F_positions_b61 F_lastId_b61 F_size_b61 gb61 (by omega)) 1 (by decide) (by decide) (by decide) (by decide) (g := (mkF m 67 #[.val (.int q1), .val (.int q2), .val (.int q3), .val (.int q4), .val (.int v3), .val (.int (0 : Int32)), .val (.int (0 : Int32)), .val (.int v54), .unset, .unset, .unset, .unset] [(.int v3), (.ref b61), (.ref b61)])) rfl (by rw [hml]; rfl) b61 [(.int v3)] [(.ref b61)] (lenOf pd0_0 rfl) rfl rfl (by show 2 * 0 + _ ≤ _; exact Nat.le_of_eq rfl) (hb hby at_67) ?_
        intro rv67 T67 h67 L67 X67 e67 hQ67
        obtain ⟨rfl, NQ67, KQ67, ai, ap, sz, la, nI, nP, I, P, EQ, Fi, Fp, Fs, Fl, Ai, Ap, gai, gap, ne1, ne2, ne3, hsz, hla, hnI, hnP, hini⟩ := hQ67
        have Z67 : n0 ≤ h67.size := Nat.le_trans Z0_61 KQ67.1
        have rsz := rng32 sz
        have rla := rng32 la
        have V0 : own_V sz.toInt la.toInt I P := by rw [hsz, hla]; exact own_V_start (by omega) hini
        have D0 : own_D P la.toInt 0 0 := by rw [hla]; exact own_D0 hini.2
        have N67 := Fr.app N0 NQ67
        show own_Ends p e below s room_1.cells room_1.slots (Q0 Z q1 q2 q3 q4 h0 n0) T67 (mkF m 70 #[.val (.int q1), .val (.int q2), .val (.int q3), .val (.int q4), .val (.int v3), .val (.int (0 : Int32)), .val (.int (0 : Int32)), .val (.int v54), .unset, .unset, .unset, .unset] [(.ref b61)])
        have PX0 : own_X P v3.toInt v3.toInt 0 v54.toInt 0 := own_X0 hini.2
        have r3' : 0 ≤ v3.toInt ∧ v3.toInt ≤ 7 := by omega
        clear f3
        refine own_go (mkF m 72 #[.val (.int q1), .val (.int q2), .val (.int q3), .val (.int q4), .val (.int v3), .val (.int (0 : Int32)), .val (.int (0 : Int32)), .val (.int v54), .val (.ref b61), .unset, .unset, .unset] []) (fun t k => XS.astore X67.here hx rfl (hb hby at_70) rfl rfl (l' := #[.val (.int q1), .val (.int q2), .val (.int q3), .val (.int q4), .val (.int v3), .val (.int (0 : Int32)), .val (.int (0 : Int32)), .val (.int v54), .val (.ref b61), .unset, .unset, .unset]) rfl k) ?_
        refine own_go (mkF m 74 #[.val (.int q1), .val (.int q2), .val (.int q3), .val (.int q4), .val (.int v3), .val (.int (0 : Int32)), .val (.int (0 : Int32)), .val (.int v54), .val (.ref b61), .unset, .unset, .unset] [(.int (0 : Int32))]) (fun t k => XS.iload X67.here hx rfl (hb hby at_72) rfl k) ?_
        refine own_go (mkF m 84 #[.val (.int q1), .val (.int q2), .val (.int q3), .val (.int q4), .val (.int v3), .val (.int (0 : Int32)), .val (.int (0 : Int32)), .val (.int v54), .val (.ref b61), .unset, .unset, .unset] []) (fun t k => XS.ifYes X67.here hx rfl (pc0 := 74) (pc' := 84) rfl (hb hby at_74) rfl (by decide) (by decide) (by decide) k) ?_
        refine own_go (mkF m 86 #[.val (.int q1), .val (.int q2), .val (.int q3), .val (.int q4), .val (.int v3), .val (.int (0 : Int32)), .val (.int (0 : Int32)), .val (.int v54), .val (.ref b61), .unset, .unset, .unset] [(.int (0 : Int32))]) (fun t k => XS.iload X67.here hx rfl (hb hby at_84) rfl k) ?_
        refine own_go (mkF m 95 #[.val (.int q1), .val (.int q2), .val (.int q3), .val (.int q4), .val (.int v3), .val (.int (0 : Int32)), .val (.int (0 : Int32)), .val (.int v54), .val (.ref b61), .unset, .unset, .unset] []) (fun t k => XS.ifYes X67.here hx rfl (pc0 := 86) (pc' := 95) rfl (hb hby at_86) rfl (by decide) (by decide) (by decide) k) ?_
        refine own_go (mkF m 96 #[.val (.int q1), .val (.int q2), .val (.int q3), .val (.int q4), .val (.int v3), .val (.int (0 : Int32)), .val (.int (0 : Int32)), .val (.int v54), .val (.ref b61), .unset, .unset, .unset] [(.int q2)]) (fun t k => XS.iloadN X67.here hx rfl (hb hby at_95) rfl k) ?_
        refine own_go (mkF m 98 #[.val (.int q1), .val (.int q2), .val (.int q3), .val (.int q4), .val (.int v3), .val (.int (0 : Int32)), .val (.int (0 : Int32)), .val (.int v54), .val (.ref b61), .unset, .unset, .unset] [(.int (15 : Int32)), (.int q2)]) (fun t k => XS.bipush X67.here hx rfl (hb hby at_96) k) ?_
        refine own_go (mkF m 99 #[.val (.int q1), .val (.int q2), .val (.int q3), .val (.int q4), .val (.int v3), .val (.int (0 : Int32)), .val (.int (0 : Int32)), .val (.int v54), .val (.ref b61), .unset, .unset, .unset] [(.int (q2 &&& (15 : Int32)))]) (fun t k => XS.iand X67.here hx rfl (hb hby at_98) rfl k) ?_
        generalize hv98 : (q2 &&& (15 : Int32)) = v98
        have f98 : v98.toInt = q2.toInt % 16 := by rw [← hv98]; exact c_mask q2 (15 : Int32) 4 (by decide) (by decide)
        have r98 := rng32 v98
        refine own_go (mkF m 100 #[.val (.int q1), .val (.int q2), .val (.int q3), .val (.int q4), .val (.int v3), .val (.int (0 : Int32)), .val (.int (0 : Int32)), .val (.int v54), .val (.ref b61), .unset, .unset, .unset] [(.int (1 : Int32)), (.int v98)]) (fun t k => XS.iconst X67.here hx rfl (hb hby at_99) k) ?_
        refine own_go (mkF m 101 #[.val (.int q1), .val (.int q2), .val (.int q3), .val (.int q4), .val (.int v3), .val (.int (0 : Int32)), .val (.int (0 : Int32)), .val (.int v54), .val (.ref b61), .unset, .unset, .unset] [(.int (v98 - (1 : Int32)))]) (fun t k => XS.isub X67.here hx rfl (hb hby at_100) rfl k) ?_
        generalize hv100 : (v98 - (1 : Int32)) = v100
        have f100 : (v100.toInt - (v98.toInt - 1)) % 4294967296 = 0 := by rw [← hv100]; exact c_isub v98 (1 : Int32)
        have r100 := rng32 v100
        refine own_go (mkF m 103 #[.val (.int q1), .val (.int q2), .val (.int q3), .val (.int q4), .val (.int v3), .val (.int (0 : Int32)), .val (.int (0 : Int32)), .val (.int v54), .val (.ref b61), .val (.int v100), .unset, .unset] []) (fun t k => XS.istore X67.here hx rfl (hb hby at_101) rfl (l' := #[.val (.int q1), .val (.int q2), .val (.int q3), .val (.int q4), .val (.int v3), .val (.int (0 : Int32)), .val (.int (0 : Int32)), .val (.int v54), .val (.ref b61), .val (.int v100), .unset, .unset]) rfl k) ?_
        refine own_go (mkF m 105 #[.val (.int q1), .val (.int q2), .val (.int q3), .val (.int q4), .val (.int v3), .val (.int (0 : Int32)), .val (.int (0 : Int32)), .val (.int v54), .val (.ref b61), .val (.int v100), .unset, .unset] [(.ref b61)]) (fun t k => XS.aload X67.here hx rfl (hb hby at_103) rfl rfl k) ?_
        refine own_go (mkF m 106 #[.val (.int q1), .val (.int q2), .val (.int q3), .val (.int q4), .val (.int v3), .val (.int (0 : Int32)), .val (.int (0 : Int32)), .val (.int v54), .val (.ref b61), .val (.int v100), .unset, .unset] [(.int q4), (.ref b61)]) (fun t k => XS.iloadN X67.here hx rfl (hb hby at_105) rfl k) ?_
        refine own_callV X67 hx hZ (y := (⟨"com/example/chronoquorum/chronoquorum/LiveNodes", "positionOf", "(I)I"⟩ : MethodName)) hown (hw _ (List.mem_of_getElem? (i := 14) rfl)) (hw _ (List.mem_of_getElem? (i := 15) rfl)) (hw _ (List.mem_of_getElem? (i := 17) rfl)) (hw _ (List.mem_of_getElem? (i := 16) rfl)) (hw _ (List.mem_of_getElem? (i := 2) rfl)) (hw _ (List.mem_of_getElem? (i := 18) rfl)) (by decide) e67 b61 EQ (rm4 l Z a0 hw [] b61 q4 ap la nP P h67 n0 Z67 EQ Fp Fl Ap (by omega) ) 0 (by decide) (by decide) (by decide) (by decide) (g := (mkF m 106 #[.val (.int q1), .val (.int q2), .val (.int q3), .val (.int q4), .val (.int v3), .val (.int (0 : Int32)), .val (.int (0 : Int32)), .val (.int v54), .val (.ref b61), .val (.int v100), .unset, .unset] [(.int q4), (.ref b61)])) rfl (by rw [hml]; rfl) [(.int q4)] [] (lenOf pd0_1 rfl) rfl rfl (by show 2 * 0 + _ ≤ _; exact Nat.le_of_eq rfl) (hb hby at_106) ?_
        intro rv106 T106 h106 L106 X106 e106 hQ106
        obtain ⟨⟨rp106, rfl, hr106⟩, NQ106, eq106⟩ := hQ106
        rw [eq106] at e106
        have rr106 := rng32 rp106
        have N106 := Fr.app N67 NQ106
        show own_Ends p e below s room_1.cells room_1.slots (Q0 Z q1 q2 q3 q4 h0 n0) T106 (mkF m 109 #[.val (.int q1), .val (.int q2), .val (.int q3), .val (.int q4), .val (.int v3), .val (.int (0 : Int32)), .val (.int (0 : Int32)), .val (.int v54), .val (.ref b61), .val (.int v100), .unset, .unset] [(.int rp106)])
        refine own_go (mkF m 110 #[.val (.int q1), .val (.int q2), .val (.int q3), .val (.int q4), .val (.int v3), .val (.int (0 : Int32)), .val (.int (0 : Int32)), .val (.int v54), .val (.ref b61), .val (.int v100), .unset, .unset] [(.int q4), (.int rp106)]) (fun t k => XS.iloadN X106.here hx rfl (hb hby at_109) rfl k) ?_
        refine own_go (mkF m 112 #[.val (.int q1), .val (.int q2), .val (.int q3), .val (.int q4), .val (.int v3), .val (.int (0 : Int32)), .val (.int (0 : Int32)), .val (.int v54), .val (.ref b61), .val (.int v100), .unset, .unset] [(.int v3), (.int q4), (.int rp106)]) (fun t k => XS.iload X106.here hx rfl (hb hby at_110) rfl k) ?_
        refine own_go (mkF m 114 #[.val (.int q1), .val (.int q2), .val (.int q3), .val (.int q4), .val (.int v3), .val (.int (0 : Int32)), .val (.int (0 : Int32)), .val (.int v54), .val (.ref b61), .val (.int v100), .unset, .unset] [(.int (0 : Int32)), (.int v3), (.int q4), (.int rp106)]) (fun t k => XS.iload X106.here hx rfl (hb hby at_112) rfl k) ?_
        refine own_go (mkF m 116 #[.val (.int q1), .val (.int q2), .val (.int q3), .val (.int q4), .val (.int v3), .val (.int (0 : Int32)), .val (.int (0 : Int32)), .val (.int v54), .val (.ref b61), .val (.int v100), .unset, .unset] [(.int v54), (.int (0 : Int32)), (.int v3), (.int q4), (.int rp106)]) (fun t k => XS.iload X106.here hx rfl (hb hby at_114) rfl k) ?_
        refine own_go (mkF m 118 #[.val (.int q1), .val (.int q2), .val (.int q3), .val (.int q4), .val (.int v3), .val (.int (0 : Int32)), .val (.int (0 : Int32)), .val (.int v54), .val (.ref b61), .val (.int v100), .unset, .unset] [(.int (0 : Int32)), (.int v54), (.int (0 : Int32)), (.int v3), (.int q4), (.int rp106)]) (fun t k => XS.iload X106.here hx rfl (hb hby at_116) rfl k) ?_
        have lt118_2 : (0 : Int32).toInt = 0 := rfl
        have lt118_4 : (0 : Int32).toInt = 0 := rfl
        refine own_callS X106 hx hZ (y := (⟨"com/example/chronoquorum/chronoquorum/LiveNodesPositionOfPinLaw", "expected", "(IIZIZ)I"⟩ : MethodName)) hown (hw _ (List.mem_of_getElem? (i := 21) rfl)) (hw _ (List.mem_of_getElem? (i := 22) rfl)) (hw _ (List.mem_of_getElem? (i := 23) rfl)) (hw _ (List.mem_of_getElem? (i := 24) rfl)) (by decide) e106 (rmE l Z a0 hw [] q4 v3 (0 : Int32) v54 (0 : Int32) h67 n0 Z67 (by omega)) 1 (by decide) (by decide) (by decide) (by decide) (g := (mkF m 118 #[.val (.int q1), .val (.int q2), .val (.int q3), .val (.int q4), .val (.int v3), .val (.int (0 : Int32)), .val (.int (0 : Int32)), .val (.int v54), .val (.ref b61), .val (.int v100), .unset, .unset] [(.int (0 : Int32)), (.int v54), (.int (0 : Int32)), (.int v3), (.int q4), (.int rp106)])) rfl (by rw [hml]; rfl) [(.int q4), (.int v3), (.int (0 : Int32)), (.int v54), (.int (0 : Int32))] [(.int rp106)] (lenOf pd0_2 rfl) rfl rfl (by show 2 * 0 + _ ≤ _; exact Nat.le_of_eq rfl) (hb hby at_118) ?_
        intro rv118 T118 h118 L118 X118 e118 hQ118
        obtain ⟨⟨re118, rfl, hr118⟩, NQ118, eq118⟩ := hQ118
        rw [eq118] at e118
        have N118 := Fr.app N106 NQ118
        show own_Ends p e below s room_1.cells room_1.slots (Q0 Z q1 q2 q3 q4 h0 n0) T118 (mkF m 121 #[.val (.int q1), .val (.int q2), .val (.int q3), .val (.int q4), .val (.int v3), .val (.int (0 : Int32)), .val (.int (0 : Int32)), .val (.int v54), .val (.ref b61), .val (.int v100), .unset, .unset] [(.int re118), (.int rp106)])
        have c121 : rp106.toInt = re118.toInt := own_pos0 hr106 hr118 PX0 (by omega)
        refine own_go (mkF m 124 #[.val (.int q1), .val (.int q2), .val (.int q3), .val (.int q4), .val (.int v3), .val (.int (0 : Int32)), .val (.int (0 : Int32)), .val (.int v54), .val (.ref b61), .val (.int v100), .unset, .unset] []) (fun t k => XS.icmpNo X118.here hx rfl (hb hby at_121) rfl (own_icF (cd := .ne) (fun q => q c121)) k) ?_
        refine own_go (mkF m 125 #[.val (.int q1), .val (.int q2), .val (.int q3), .val (.int q4), .val (.int v3), .val (.int (0 : Int32)), .val (.int (0 : Int32)), .val (.int v54), .val (.ref b61), .val (.int v100), .unset, .unset] [(.int (1 : Int32))]) (fun t k => XS.iconst X118.here hx rfl (hb hby at_124) k) ?_
        refine own_go (mkF m 129 #[.val (.int q1), .val (.int q2), .val (.int q3), .val (.int q4), .val (.int v3), .val (.int (0 : Int32)), .val (.int (0 : Int32)), .val (.int v54), .val (.ref b61), .val (.int v100), .unset, .unset] [(.int (1 : Int32))]) (fun t k => XS.goto X118.here hx rfl (pc0 := 125) (pc' := 129) rfl (hb hby at_125) (by decide) (by decide) k) ?_
        refine own_go (mkF m 131 #[.val (.int q1), .val (.int q2), .val (.int q3), .val (.int q4), .val (.int v3), .val (.int (0 : Int32)), .val (.int (0 : Int32)), .val (.int v54), .val (.ref b61), .val (.int v100), .val (.int (1 : Int32)), .unset] []) (fun t k => XS.istore X118.here hx rfl (hb hby at_129) rfl (l' := #[.val (.int q1), .val (.int q2), .val (.int q3), .val (.int q4), .val (.int v3), .val (.int (0 : Int32)), .val (.int (0 : Int32)), .val (.int v54), .val (.ref b61), .val (.int v100), .val (.int (1 : Int32)), .unset]) rfl k) ?_
        refine own_go (mkF m 133 #[.val (.int q1), .val (.int q2), .val (.int q3), .val (.int q4), .val (.int v3), .val (.int (0 : Int32)), .val (.int (0 : Int32)), .val (.int v54), .val (.ref b61), .val (.int v100), .val (.int (1 : Int32)), .unset] [(.ref b61)]) (fun t k => XS.aload X118.here hx rfl (hb hby at_131) rfl rfl k) ?_
        refine own_go (mkF m 135 #[.val (.int q1), .val (.int q2), .val (.int q3), .val (.int q4), .val (.int v3), .val (.int (0 : Int32)), .val (.int (0 : Int32)), .val (.int v54), .val (.ref b61), .val (.int v100), .val (.int (1 : Int32)), .unset] [(.int v100), (.ref b61)]) (fun t k => XS.iload X118.here hx rfl (hb hby at_133) rfl k) ?_
        refine own_callV X118 hx hZ (y := (⟨"com/example/chronoquorum/chronoquorum/LiveNodes", "positionOf", "(I)I"⟩ : MethodName)) hown (hw _ (List.mem_of_getElem? (i := 14) rfl)) (hw _ (List.mem_of_getElem? (i := 15) rfl)) (hw _ (List.mem_of_getElem? (i := 17) rfl)) (hw _ (List.mem_of_getElem? (i := 16) rfl)) (hw _ (List.mem_of_getElem? (i := 2) rfl)) (hw _ (List.mem_of_getElem? (i := 18) rfl)) (by decide) e118 b61 EQ (rm4 l Z a0 hw [] b61 v100 ap la nP P h67 n0 Z67 EQ Fp Fl Ap (by omega) ) 0 (by decide) (by decide) (by decide) (by decide) (g := (mkF m 135 #[.val (.int q1), .val (.int q2), .val (.int q3), .val (.int q4), .val (.int v3), .val (.int (0 : Int32)), .val (.int (0 : Int32)), .val (.int v54), .val (.ref b61), .val (.int v100), .val (.int (1 : Int32)), .unset] [(.int v100), (.ref b61)])) rfl (by rw [hml]; rfl) [(.int v100)] [] (lenOf pd0_1 rfl) rfl rfl (by show 2 * 0 + _ ≤ _; exact Nat.le_of_eq rfl) (hb hby at_135) ?_
        intro rv135 T135 h135 L135 X135 e135 hQ135
        obtain ⟨⟨rp135, rfl, hr135⟩, NQ135, eq135⟩ := hQ135
        rw [eq135] at e135
        have rr135 := rng32 rp135
        have N135 := Fr.app N118 NQ135
        show own_Ends p e below s room_1.cells room_1.slots (Q0 Z q1 q2 q3 q4 h0 n0) T135 (mkF m 138 #[.val (.int q1), .val (.int q2), .val (.int q3), .val (.int q4), .val (.int v3), .val (.int (0 : Int32)), .val (.int (0 : Int32)), .val (.int v54), .val (.ref b61), .val (.int v100), .val (.int (1 : Int32)), .unset] [(.int rp135)])
        refine own_go (mkF m 140 #[.val (.int q1), .val (.int q2), .val (.int q3), .val (.int q4), .val (.int v3), .val (.int (0 : Int32)), .val (.int (0 : Int32)), .val (.int v54), .val (.ref b61), .val (.int v100), .val (.int (1 : Int32)), .unset] [(.int v100), (.int rp135)]) (fun t k => XS.iload X135.here hx rfl (hb hby at_138) rfl k) ?_
        refine own_go (mkF m 142 #[.val (.int q1), .val (.int q2), .val (.int q3), .val (.int q4), .val (.int v3), .val (.int (0 : Int32)), .val (.int (0 : Int32)), .val (.int v54), .val (.ref b61), .val (.int v100), .val (.int (1 : Int32)), .unset] [(.int v3), (.int v100), (.int rp135)]) (fun t k => XS.iload X135.here hx rfl (hb hby at_140) rfl k) ?_
        refine own_go (mkF m 144 #[.val (.int q1), .val (.int q2), .val (.int q3), .val (.int q4), .val (.int v3), .val (.int (0 : Int32)), .val (.int (0 : Int32)), .val (.int v54), .val (.ref b61), .val (.int v100), .val (.int (1 : Int32)), .unset] [(.int (0 : Int32)), (.int v3), (.int v100), (.int rp135)]) (fun t k => XS.iload X135.here hx rfl (hb hby at_142) rfl k) ?_
        refine own_go (mkF m 146 #[.val (.int q1), .val (.int q2), .val (.int q3), .val (.int q4), .val (.int v3), .val (.int (0 : Int32)), .val (.int (0 : Int32)), .val (.int v54), .val (.ref b61), .val (.int v100), .val (.int (1 : Int32)), .unset] [(.int v54), (.int (0 : Int32)), (.int v3), (.int v100), (.int rp135)]) (fun t k => XS.iload X135.here hx rfl (hb hby at_144) rfl k) ?_
        refine own_go (mkF m 148 #[.val (.int q1), .val (.int q2), .val (.int q3), .val (.int q4), .val (.int v3), .val (.int (0 : Int32)), .val (.int (0 : Int32)), .val (.int v54), .val (.ref b61), .val (.int v100), .val (.int (1 : Int32)), .unset] [(.int (0 : Int32)), (.int v54), (.int (0 : Int32)), (.int v3), (.int v100), (.int rp135)]) (fun t k => XS.iload X135.here hx rfl (hb hby at_146) rfl k) ?_
        have lt148_2 : (0 : Int32).toInt = 0 := rfl
        have lt148_4 : (0 : Int32).toInt = 0 := rfl
        refine own_callS X135 hx hZ (y := (⟨"com/example/chronoquorum/chronoquorum/LiveNodesPositionOfPinLaw", "expected", "(IIZIZ)I"⟩ : MethodName)) hown (hw _ (List.mem_of_getElem? (i := 21) rfl)) (hw _ (List.mem_of_getElem? (i := 22) rfl)) (hw _ (List.mem_of_getElem? (i := 23) rfl)) (hw _ (List.mem_of_getElem? (i := 24) rfl)) (by decide) e135 (rmE l Z a0 hw [] v100 v3 (0 : Int32) v54 (0 : Int32) h67 n0 Z67 (by omega)) 1 (by decide) (by decide) (by decide) (by decide) (g := (mkF m 148 #[.val (.int q1), .val (.int q2), .val (.int q3), .val (.int q4), .val (.int v3), .val (.int (0 : Int32)), .val (.int (0 : Int32)), .val (.int v54), .val (.ref b61), .val (.int v100), .val (.int (1 : Int32)), .unset] [(.int (0 : Int32)), (.int v54), (.int (0 : Int32)), (.int v3), (.int v100), (.int rp135)])) rfl (by rw [hml]; rfl) [(.int v100), (.int v3), (.int (0 : Int32)), (.int v54), (.int (0 : Int32))] [(.int rp135)] (lenOf pd0_2 rfl) rfl rfl (by show 2 * 0 + _ ≤ _; exact Nat.le_of_eq rfl) (hb hby at_148) ?_
        intro rv148 T148 h148 L148 X148 e148 hQ148
        obtain ⟨⟨re148, rfl, hr148⟩, NQ148, eq148⟩ := hQ148
        rw [eq148] at e148
        have N148 := Fr.app N135 NQ148
        show own_Ends p e below s room_1.cells room_1.slots (Q0 Z q1 q2 q3 q4 h0 n0) T148 (mkF m 151 #[.val (.int q1), .val (.int q2), .val (.int q3), .val (.int q4), .val (.int v3), .val (.int (0 : Int32)), .val (.int (0 : Int32)), .val (.int v54), .val (.ref b61), .val (.int v100), .val (.int (1 : Int32)), .unset] [(.int re148), (.int rp135)])
        have c151 : rp135.toInt = re148.toInt := own_pos0 hr135 hr148 PX0 (by omega)
        refine own_go (mkF m 154 #[.val (.int q1), .val (.int q2), .val (.int q3), .val (.int q4), .val (.int v3), .val (.int (0 : Int32)), .val (.int (0 : Int32)), .val (.int v54), .val (.ref b61), .val (.int v100), .val (.int (1 : Int32)), .unset] []) (fun t k => XS.icmpNo X148.here hx rfl (hb hby at_151) rfl (own_icF (cd := .ne) (fun q => q c151)) k) ?_
        refine own_go (mkF m 155 #[.val (.int q1), .val (.int q2), .val (.int q3), .val (.int q4), .val (.int v3), .val (.int (0 : Int32)), .val (.int (0 : Int32)), .val (.int v54), .val (.ref b61), .val (.int v100), .val (.int (1 : Int32)), .unset] [(.int (1 : Int32))]) (fun t k => XS.iconst X148.here hx rfl (hb hby at_154) k) ?_
        refine own_go (mkF m 159 #[.val (.int q1), .val (.int q2), .val (.int q3), .val (.int q4), .val (.int v3), .val (.int (0 : Int32)), .val (.int (0 : Int32)), .val (.int v54), .val (.ref b61), .val (.int v100), .val (.int (1 : Int32)), .unset] [(.int (1 : Int32))]) (fun t k => XS.goto X148.here hx rfl (pc0 := 155) (pc' := 159) rfl (hb hby at_155) (by decide) (by decide) k) ?_
        refine own_go (mkF m 161 #[.val (.int q1), .val (.int q2), .val (.int q3), .val (.int q4), .val (.int v3), .val (.int (0 : Int32)), .val (.int (0 : Int32)), .val (.int v54), .val (.ref b61), .val (.int v100), .val (.int (1 : Int32)), .val (.int (1 : Int32))] []) (fun t k => XS.istore X148.here hx rfl (hb hby at_159) rfl (l' := #[.val (.int q1), .val (.int q2), .val (.int q3), .val (.int q4), .val (.int v3), .val (.int (0 : Int32)), .val (.int (0 : Int32)), .val (.int v54), .val (.ref b61), .val (.int v100), .val (.int (1 : Int32)), .val (.int (1 : Int32))]) rfl k) ?_
        refine own_go (mkF m 163 #[.val (.int q1), .val (.int q2), .val (.int q3), .val (.int q4), .val (.int v3), .val (.int (0 : Int32)), .val (.int (0 : Int32)), .val (.int v54), .val (.ref b61), .val (.int v100), .val (.int (1 : Int32)), .val (.int (1 : Int32))] [(.int (1 : Int32))]) (fun t k => XS.iload X148.here hx rfl (hb hby at_161) rfl k) ?_
        refine own_go (mkF m 166 #[.val (.int q1), .val (.int q2), .val (.int q3), .val (.int q4), .val (.int v3), .val (.int (0 : Int32)), .val (.int (0 : Int32)), .val (.int v54), .val (.ref b61), .val (.int v100), .val (.int (1 : Int32)), .val (.int (1 : Int32))] []) (fun t k => XS.ifNo X148.here hx rfl (hb hby at_163) rfl (by decide) k) ?_
        refine own_go (mkF m 168 #[.val (.int q1), .val (.int q2), .val (.int q3), .val (.int q4), .val (.int v3), .val (.int (0 : Int32)), .val (.int (0 : Int32)), .val (.int v54), .val (.ref b61), .val (.int v100), .val (.int (1 : Int32)), .val (.int (1 : Int32))] [(.int (1 : Int32))]) (fun t k => XS.iload X148.here hx rfl (hb hby at_166) rfl k) ?_
        refine own_go (mkF m 171 #[.val (.int q1), .val (.int q2), .val (.int q3), .val (.int q4), .val (.int v3), .val (.int (0 : Int32)), .val (.int (0 : Int32)), .val (.int v54), .val (.ref b61), .val (.int v100), .val (.int (1 : Int32)), .val (.int (1 : Int32))] []) (fun t k => XS.ifNo X148.here hx rfl (hb hby at_168) rfl (by decide) k) ?_
        refine own_go (mkF m 172 #[.val (.int q1), .val (.int q2), .val (.int q3), .val (.int q4), .val (.int v3), .val (.int (0 : Int32)), .val (.int (0 : Int32)), .val (.int v54), .val (.ref b61), .val (.int v100), .val (.int (1 : Int32)), .val (.int (1 : Int32))] [(.int (1 : Int32))]) (fun t k => XS.iconst X148.here hx rfl (hb hby at_171) k) ?_
        refine own_go (mkF m 176 #[.val (.int q1), .val (.int q2), .val (.int q3), .val (.int q4), .val (.int v3), .val (.int (0 : Int32)), .val (.int (0 : Int32)), .val (.int v54), .val (.ref b61), .val (.int v100), .val (.int (1 : Int32)), .val (.int (1 : Int32))] [(.int (1 : Int32))]) (fun t k => XS.goto X148.here hx rfl (pc0 := 172) (pc' := 176) rfl (hb hby at_172) (by decide) (by decide) k) ?_
        refine own_retI X148 hx hlk hret (by simp) rfl (hb hby at_176) (by decide) (by decide) ?_
        rw [e148]
        exact ⟨rfl, N148⟩
    · skip
      refine own_go (mkF m 34 #[.val (.int q1), .val (.int q2), .val (.int q3), .val (.int q4), .val (.int v3), .val (.int (0 : Int32)), .unset, .unset, .unset, .unset, .unset, .unset] []) (fun t k => XS.ifNo X0.here hx rfl (hb hby at_31) rfl (own_zF (cd := .eq) c31) k) ?_
      refine own_go (mkF m 35 #[.val (.int q1), .val (.int q2), .val (.int q3), .val (.int q4), .val (.int v3), .val (.int (0 : Int32)), .unset, .unset, .unset, .unset, .unset, .unset] [(.int (1 : Int32))]) (fun t k => XS.iconst X0.here hx rfl (hb hby at_34) k) ?_
      refine own_go (mkF m 39 #[.val (.int q1), .val (.int q2), .val (.int q3), .val (.int q4), .val (.int v3), .val (.int (0 : Int32)), .unset, .unset, .unset, .unset, .unset, .unset] [(.int (1 : Int32))]) (fun t k => XS.goto X0.here hx rfl (pc0 := 35) (pc' := 39) rfl (hb hby at_35) (by decide) (by decide) k) ?_
      refine own_go (mkF m 41 #[.val (.int q1), .val (.int q2), .val (.int q3), .val (.int q4), .val (.int v3), .val (.int (0 : Int32)), .val (.int (1 : Int32)), .unset, .unset, .unset, .unset, .unset] []) (fun t k => XS.istore X0.here hx rfl (hb hby at_39) rfl (l' := #[.val (.int q1), .val (.int q2), .val (.int q3), .val (.int q4), .val (.int v3), .val (.int (0 : Int32)), .val (.int (1 : Int32)), .unset, .unset, .unset, .unset, .unset]) rfl k) ?_
      refine own_go (mkF m 43 #[.val (.int q1), .val (.int q2), .val (.int q3), .val (.int q4), .val (.int v3), .val (.int (0 : Int32)), .val (.int (1 : Int32)), .unset, .unset, .unset, .unset, .unset] [(.int v3)]) (fun t k => XS.iload X0.here hx rfl (hb hby at_41) rfl k) ?_
      by_cases c43 : v3.toInt ≤ 0
      · skip
        refine own_go (mkF m 58 #[.val (.int q1), .val (.int q2), .val (.int q3), .val (.int q4), .val (.int v3), .val (.int (0 : Int32)), .val (.int (1 : Int32)), .unset, .unset, .unset, .unset, .unset] []) (fun t k => XS.ifYes X0.here hx rfl (pc0 := 43) (pc' := 58) rfl (hb hby at_43) rfl (own_zT (cd := .le) c43) (by decide) (by decide) k) ?_
        refine own_go (mkF m 59 #[.val (.int q1), .val (.int q2), .val (.int q3), .val (.int q4), .val (.int v3), .val (.int (0 : Int32)), .val (.int (1 : Int32)), .unset, .unset, .unset, .unset, .unset] [(.int (0 : Int32))]) (fun t k => XS.iconst X0.here hx rfl (hb hby at_58) k) ?_
        refine own_go (mkF m 61 #[.val (.int q1), .val (.int q2), .val (.int q3), .val (.int q4), .val (.int v3), .val (.int (0 : Int32)), .val (.int (1 : Int32)), .val (.int (0 : Int32)), .unset, .unset, .unset, .unset] []) (fun t k => XS.istore X0.here hx rfl (hb hby at_59) rfl (l' := #[.val (.int q1), .val (.int q2), .val (.int q3), .val (.int q4), .val (.int v3), .val (.int (0 : Int32)), .val (.int (1 : Int32)), .val (.int (0 : Int32)), .unset, .unset, .unset, .unset]) rfl k) ?_
        obtain ⟨T61, h61, X61, e61, E61, A61, D61, -, st61⟩ := newO X0 hx hZ hown (hw _ (List.mem_of_getElem? (i := 0) rfl)) (hw _ (List.mem_of_getElem? (i := 1) rfl)) (hw _ (List.mem_of_getElem? (i := 2) rfl)) e0 (g := (mkF m 61 #[.val (.int q1), .val (.int q2), .val (.int q3), .val (.int q4), .val (.int v3), .val (.int (0 : Int32)), .val (.int (1 : Int32)), .val (.int (0 : Int32)), .unset, .unset, .unset, .unset] [])) rfl (hb hby at_61) (by decide) (by decide)
        obtain ⟨b61, g61⟩ : ∃ z, z = h0.size := ⟨_, rfl⟩
        rw [← g61] at A61 D61 st61
        have gb61 : n0 ≤ b61 := Nat.le_trans Z0 (Nat.le_of_eq g61.symm)
        have Z0_61 : n0 ≤ h61.size := Nat.le_trans Z0 E61.1
        have F_ids_b61 : Fld Z h61 b61 "com/example/chronoquorum/chronoquorum/LiveNodes" "ids" "[I" (.null) := D61 (Or.inl (hw _ (List.mem_of_getElem? (i := 11) rfl))) (ty := (.array .int)) (by decide)
        have F_positions_b61 : Fld Z h61 b61 "com/example/chronoquorum/chronoquorum/LiveNodes" "positions" "[I" (.null) := D61 (Or.inl (hw _ (List.mem_of_getElem? (i := 13) rfl))) (ty := (.array .int)) (by decide)
        have F_lastId_b61 : Fld Z h61 b61 "com/example/chronoquorum/chronoquorum/LiveNodes" "lastId" "I" (.int (0 : Int32)) := D61 (Or.inl (hw _ (List.mem_of_getElem? (i := 20) rfl))) (ty := .int) (by decide)
        have F_size_b61 : Fld Z h61 b61 "com/example/chronoquorum/chronoquorum/LiveNodes" "size" "I" (.int (0 : Int32)) := D61 (Or.inl (hw _ (List.mem_of_getElem? (i := 37) rfl))) (ty := .int) (by decide)
        refine own_go (T' := T61) (mkF m 64 #[.val (.int q1), .val (.int q2), .val (.int q3), .val (.int q4), .val (.int v3), .val (.int (0 : Int32)), .val (.int (1 : Int32)), .val (.int (0 : Int32)), .unset, .unset, .unset, .unset] [(.ref b61)]) st61 ?_
        refine own_go (mkF m 65 #[.val (.int q1), .val (.int q2), .val (.int q3), .val (.int q4), .val (.int v3), .val (.int (0 : Int32)), .val (.int (1 : Int32)), .val (.int (0 : Int32)), .unset, .unset, .unset, .unset] [(.ref b61), (.ref b61)]) (fun t k => XS.dup X61.here hx rfl (hb hby at_64) rfl rfl k) ?_
        refine own_go (mkF m 67 #[.val (.int q1), .val (.int q2), .val (.int q3), .val (.int q4), .val (.int v3), .val (.int (0 : Int32)), .val (.int (1 : Int32)), .val (.int (0 : Int32)), .unset, .unset, .unset, .unset] [(.int v3), (.ref b61), (.ref b61)]) (fun t k => XS.iload X61.here hx rfl (hb hby at_65) rfl k) ?_
        refine own_callI X61 hx hZ (y := (⟨"com/example/chronoquorum/chronoquorum/LiveNodes", "<init>", "(I)V"⟩ : MethodName)) hown rfl (hw _ (List.mem_of_getElem? (i := 3) rfl)) (hw _ (List.mem_of_getElem? (i := 4) rfl)) (hw _ (List.mem_of_getElem? (i := 2) rfl)) (hw _ (List.mem_of_getElem? (i := 5) rfl)) (by decide) e61 (rm1 l Z a0 hw [] b61 v3 h61 n0 Z0_61 A61 F_ids_b61 F_positions_b61 F_lastId_b61 F_size_b61 gb61 (by omega)) 1 (by decide) (by decide) (by decide) (by decide) (g := (mkF m 67 #[.val (.int q1), .val (.int q2), .val (.int q3), .val (.int q4), .val (.int v3), .val (.int (0 : Int32)), .val (.int (1 : Int32)), .val (.int (0 : Int32)), .unset, .unset, .unset, .unset] [(.int v3), (.ref b61), (.ref b61)])) rfl (by rw [hml]; rfl) b61 [(.int v3)] [(.ref b61)] (lenOf pd0_0 rfl) rfl rfl (by show 2 * 0 + _ ≤ _; exact Nat.le_of_eq rfl) (hb hby at_67) ?_
        intro rv67 T67 h67 L67 X67 e67 hQ67
        obtain ⟨rfl, NQ67, KQ67, ai, ap, sz, la, nI, nP, I, P, EQ, Fi, Fp, Fs, Fl, Ai, Ap, gai, gap, ne1, ne2, ne3, hsz, hla, hnI, hnP, hini⟩ := hQ67
        have Z67 : n0 ≤ h67.size := Nat.le_trans Z0_61 KQ67.1
        have rsz := rng32 sz
        have rla := rng32 la
        have V0 : own_V sz.toInt la.toInt I P := by rw [hsz, hla]; exact own_V_start (by omega) hini
        have D0 : own_D P la.toInt 0 0 := by rw [hla]; exact own_D0 hini.2
        have N67 := Fr.app N0 NQ67
        show own_Ends p e below s room_1.cells room_1.slots (Q0 Z q1 q2 q3 q4 h0 n0) T67 (mkF m 70 #[.val (.int q1), .val (.int q2), .val (.int q3), .val (.int q4), .val (.int v3), .val (.int (0 : Int32)), .val (.int (1 : Int32)), .val (.int (0 : Int32)), .unset, .unset, .unset, .unset] [(.ref b61)])
        have PX0 : own_X P v3.toInt v3.toInt 0 0 0 := own_X0 hini.2
        have r3' : 0 ≤ v3.toInt ∧ v3.toInt ≤ 7 := by omega
        clear f3
        refine own_go (mkF m 72 #[.val (.int q1), .val (.int q2), .val (.int q3), .val (.int q4), .val (.int v3), .val (.int (0 : Int32)), .val (.int (1 : Int32)), .val (.int (0 : Int32)), .val (.ref b61), .unset, .unset, .unset] []) (fun t k => XS.astore X67.here hx rfl (hb hby at_70) rfl rfl (l' := #[.val (.int q1), .val (.int q2), .val (.int q3), .val (.int q4), .val (.int v3), .val (.int (0 : Int32)), .val (.int (1 : Int32)), .val (.int (0 : Int32)), .val (.ref b61), .unset, .unset, .unset]) rfl k) ?_
        refine own_go (mkF m 74 #[.val (.int q1), .val (.int q2), .val (.int q3), .val (.int q4), .val (.int v3), .val (.int (0 : Int32)), .val (.int (1 : Int32)), .val (.int (0 : Int32)), .val (.ref b61), .unset, .unset, .unset] [(.int (0 : Int32))]) (fun t k => XS.iload X67.here hx rfl (hb hby at_72) rfl k) ?_
        refine own_go (mkF m 84 #[.val (.int q1), .val (.int q2), .val (.int q3), .val (.int q4), .val (.int v3), .val (.int (0 : Int32)), .val (.int (1 : Int32)), .val (.int (0 : Int32)), .val (.ref b61), .unset, .unset, .unset] []) (fun t k => XS.ifYes X67.here hx rfl (pc0 := 74) (pc' := 84) rfl (hb hby at_74) rfl (by decide) (by decide) (by decide) k) ?_
        refine own_go (mkF m 86 #[.val (.int q1), .val (.int q2), .val (.int q3), .val (.int q4), .val (.int v3), .val (.int (0 : Int32)), .val (.int (1 : Int32)), .val (.int (0 : Int32)), .val (.ref b61), .unset, .unset, .unset] [(.int (1 : Int32))]) (fun t k => XS.iload X67.here hx rfl (hb hby at_84) rfl k) ?_
        refine own_go (mkF m 89 #[.val (.int q1), .val (.int q2), .val (.int q3), .val (.int q4), .val (.int v3), .val (.int (0 : Int32)), .val (.int (1 : Int32)), .val (.int (0 : Int32)), .val (.ref b61), .unset, .unset, .unset] []) (fun t k => XS.ifNo X67.here hx rfl (hb hby at_86) rfl (by decide) k) ?_
        refine own_go (mkF m 91 #[.val (.int q1), .val (.int q2), .val (.int q3), .val (.int q4), .val (.int v3), .val (.int (0 : Int32)), .val (.int (1 : Int32)), .val (.int (0 : Int32)), .val (.ref b61), .unset, .unset, .unset] [(.ref b61)]) (fun t k => XS.aload X67.here hx rfl (hb hby at_89) rfl rfl k) ?_
        obtain ⟨zI, hzI⟩ := own_z32 nI (by omega)
        obtain ⟨zP, hzP⟩ := own_z32 nP (by omega)
        have vj91 := V0.1
        refine own_callV X67 hx hZ (y := (⟨"com/example/chronoquorum/chronoquorum/LiveNodes", "join", "()I"⟩ : MethodName)) hown (hw _ (List.mem_of_getElem? (i := 54) rfl)) (hw _ (List.mem_of_getElem? (i := 27) rfl)) (hw _ (List.mem_of_getElem? (i := 29) rfl)) (hw _ (List.mem_of_getElem? (i := 28) rfl)) (hw _ (List.mem_of_getElem? (i := 2) rfl)) (hw _ (List.mem_of_getElem? (i := 30) rfl)) (by decide) e67 b61 EQ (rmJ l Z a0 hw [] b61 ai ap sz la nI nP I P zI zP h67 n0 Z67 EQ Fi Fp Fs Fl Ai Ap gb61 gai gap ne1 ne2 ne3 hzI hzP (by omega)) 0 (by decide) (by decide) (by decide) (by decide) (g := (mkF m 91 #[.val (.int q1), .val (.int q2), .val (.int q3), .val (.int q4), .val (.int v3), .val (.int (0 : Int32)), .val (.int (1 : Int32)), .val (.int (0 : Int32)), .val (.ref b61), .unset, .unset, .unset] [(.ref b61)])) rfl (by rw [hml]; rfl) [] [] (lenOf pd0_3 rfl) rfl rfl (by show 2 * 0 + _ ≤ _; exact Nat.le_of_eq rfl) (hb hby at_91) ?_
        intro rv91 T91 h91 L91 X91 e91 hQ91
        obtain ⟨⟨rj91, rfl, -⟩, NQ91, KQ91, ai91, ap91, sz91, la91, nI91, nP91, I91, P91, E91, Fi91, Fp91, Fs91, Fl91, Ai91, Ap91, ga91, gp91, n191, n291, n391, hs91, hl91, hnI91, hnP91, hj91⟩ := hQ91
        have Z91 : n0 ≤ h91.size := Nat.le_trans Z67 KQ91.1
        have rs91 := rng32 sz91
        have rl91 := rng32 la91
        have V91 : own_V sz91.toInt la91.toInt I91 P91 := by rw [hs91, hl91]; exact own_V_join V0 hj91
        have lv91 := own_jn_live (by omega) hj91
        have D91 : own_D P91 la91.toInt 0 0 := own_D_j D0 hl91 (by omega) (by omega) lv91
        have N91 := Fr.app N67 NQ91
        show own_Ends p e below s room_1.cells room_1.slots (Q0 Z q1 q2 q3 q4 h0 n0) T91 (mkF m 94 #[.val (.int q1), .val (.int q2), .val (.int q3), .val (.int q4), .val (.int v3), .val (.int (0 : Int32)), .val (.int (1 : Int32)), .val (.int (0 : Int32)), .val (.ref b61), .unset, .unset, .unset] [(.int rj91)])
        have PX91 : own_X P91 (v3.toInt + 1) v3.toInt 0 0 1 := own_X_join PX0 (by omega) (by omega) (hsz) hla hj91
        refine own_go (mkF m 95 #[.val (.int q1), .val (.int q2), .val (.int q3), .val (.int q4), .val (.int v3), .val (.int (0 : Int32)), .val (.int (1 : Int32)), .val (.int (0 : Int32)), .val (.ref b61), .unset, .unset, .unset] []) (fun t k => XS.pop X91.here hx rfl (hb hby at_94) rfl rfl k) ?_
        refine own_go (mkF m 96 #[.val (.int q1), .val (.int q2), .val (.int q3), .val (.int q4), .val (.int v3), .val (.int (0 : Int32)), .val (.int (1 : Int32)), .val (.int (0 : Int32)), .val (.ref b61), .unset, .unset, .unset] [(.int q2)]) (fun t k => XS.iloadN X91.here hx rfl (hb hby at_95) rfl k) ?_
        refine own_go (mkF m 98 #[.val (.int q1), .val (.int q2), .val (.int q3), .val (.int q4), .val (.int v3), .val (.int (0 : Int32)), .val (.int (1 : Int32)), .val (.int (0 : Int32)), .val (.ref b61), .unset, .unset, .unset] [(.int (15 : Int32)), (.int q2)]) (fun t k => XS.bipush X91.here hx rfl (hb hby at_96) k) ?_
        refine own_go (mkF m 99 #[.val (.int q1), .val (.int q2), .val (.int q3), .val (.int q4), .val (.int v3), .val (.int (0 : Int32)), .val (.int (1 : Int32)), .val (.int (0 : Int32)), .val (.ref b61), .unset, .unset, .unset] [(.int (q2 &&& (15 : Int32)))]) (fun t k => XS.iand X91.here hx rfl (hb hby at_98) rfl k) ?_
        generalize hv98 : (q2 &&& (15 : Int32)) = v98
        have f98 : v98.toInt = q2.toInt % 16 := by rw [← hv98]; exact c_mask q2 (15 : Int32) 4 (by decide) (by decide)
        have r98 := rng32 v98
        refine own_go (mkF m 100 #[.val (.int q1), .val (.int q2), .val (.int q3), .val (.int q4), .val (.int v3), .val (.int (0 : Int32)), .val (.int (1 : Int32)), .val (.int (0 : Int32)), .val (.ref b61), .unset, .unset, .unset] [(.int (1 : Int32)), (.int v98)]) (fun t k => XS.iconst X91.here hx rfl (hb hby at_99) k) ?_
        refine own_go (mkF m 101 #[.val (.int q1), .val (.int q2), .val (.int q3), .val (.int q4), .val (.int v3), .val (.int (0 : Int32)), .val (.int (1 : Int32)), .val (.int (0 : Int32)), .val (.ref b61), .unset, .unset, .unset] [(.int (v98 - (1 : Int32)))]) (fun t k => XS.isub X91.here hx rfl (hb hby at_100) rfl k) ?_
        generalize hv100 : (v98 - (1 : Int32)) = v100
        have f100 : (v100.toInt - (v98.toInt - 1)) % 4294967296 = 0 := by rw [← hv100]; exact c_isub v98 (1 : Int32)
        have r100 := rng32 v100
        refine own_go (mkF m 103 #[.val (.int q1), .val (.int q2), .val (.int q3), .val (.int q4), .val (.int v3), .val (.int (0 : Int32)), .val (.int (1 : Int32)), .val (.int (0 : Int32)), .val (.ref b61), .val (.int v100), .unset, .unset] []) (fun t k => XS.istore X91.here hx rfl (hb hby at_101) rfl (l' := #[.val (.int q1), .val (.int q2), .val (.int q3), .val (.int q4), .val (.int v3), .val (.int (0 : Int32)), .val (.int (1 : Int32)), .val (.int (0 : Int32)), .val (.ref b61), .val (.int v100), .unset, .unset]) rfl k) ?_
        refine own_go (mkF m 105 #[.val (.int q1), .val (.int q2), .val (.int q3), .val (.int q4), .val (.int v3), .val (.int (0 : Int32)), .val (.int (1 : Int32)), .val (.int (0 : Int32)), .val (.ref b61), .val (.int v100), .unset, .unset] [(.ref b61)]) (fun t k => XS.aload X91.here hx rfl (hb hby at_103) rfl rfl k) ?_
        refine own_go (mkF m 106 #[.val (.int q1), .val (.int q2), .val (.int q3), .val (.int q4), .val (.int v3), .val (.int (0 : Int32)), .val (.int (1 : Int32)), .val (.int (0 : Int32)), .val (.ref b61), .val (.int v100), .unset, .unset] [(.int q4), (.ref b61)]) (fun t k => XS.iloadN X91.here hx rfl (hb hby at_105) rfl k) ?_
        refine own_callV X91 hx hZ (y := (⟨"com/example/chronoquorum/chronoquorum/LiveNodes", "positionOf", "(I)I"⟩ : MethodName)) hown (hw _ (List.mem_of_getElem? (i := 14) rfl)) (hw _ (List.mem_of_getElem? (i := 15) rfl)) (hw _ (List.mem_of_getElem? (i := 17) rfl)) (hw _ (List.mem_of_getElem? (i := 16) rfl)) (hw _ (List.mem_of_getElem? (i := 2) rfl)) (hw _ (List.mem_of_getElem? (i := 18) rfl)) (by decide) e91 b61 E91 (rm4 l Z a0 hw [] b61 q4 ap91 la91 nP91 P91 h91 n0 Z91 E91 Fp91 Fl91 Ap91 (by omega) ) 0 (by decide) (by decide) (by decide) (by decide) (g := (mkF m 106 #[.val (.int q1), .val (.int q2), .val (.int q3), .val (.int q4), .val (.int v3), .val (.int (0 : Int32)), .val (.int (1 : Int32)), .val (.int (0 : Int32)), .val (.ref b61), .val (.int v100), .unset, .unset] [(.int q4), (.ref b61)])) rfl (by rw [hml]; rfl) [(.int q4)] [] (lenOf pd0_1 rfl) rfl rfl (by show 2 * 0 + _ ≤ _; exact Nat.le_of_eq rfl) (hb hby at_106) ?_
        intro rv106 T106 h106 L106 X106 e106 hQ106
        obtain ⟨⟨rp106, rfl, hr106⟩, NQ106, eq106⟩ := hQ106
        rw [eq106] at e106
        have rr106 := rng32 rp106
        have N106 := Fr.app N91 NQ106
        show own_Ends p e below s room_1.cells room_1.slots (Q0 Z q1 q2 q3 q4 h0 n0) T106 (mkF m 109 #[.val (.int q1), .val (.int q2), .val (.int q3), .val (.int q4), .val (.int v3), .val (.int (0 : Int32)), .val (.int (1 : Int32)), .val (.int (0 : Int32)), .val (.ref b61), .val (.int v100), .unset, .unset] [(.int rp106)])
        refine own_go (mkF m 110 #[.val (.int q1), .val (.int q2), .val (.int q3), .val (.int q4), .val (.int v3), .val (.int (0 : Int32)), .val (.int (1 : Int32)), .val (.int (0 : Int32)), .val (.ref b61), .val (.int v100), .unset, .unset] [(.int q4), (.int rp106)]) (fun t k => XS.iloadN X106.here hx rfl (hb hby at_109) rfl k) ?_
        refine own_go (mkF m 112 #[.val (.int q1), .val (.int q2), .val (.int q3), .val (.int q4), .val (.int v3), .val (.int (0 : Int32)), .val (.int (1 : Int32)), .val (.int (0 : Int32)), .val (.ref b61), .val (.int v100), .unset, .unset] [(.int v3), (.int q4), (.int rp106)]) (fun t k => XS.iload X106.here hx rfl (hb hby at_110) rfl k) ?_
        refine own_go (mkF m 114 #[.val (.int q1), .val (.int q2), .val (.int q3), .val (.int q4), .val (.int v3), .val (.int (0 : Int32)), .val (.int (1 : Int32)), .val (.int (0 : Int32)), .val (.ref b61), .val (.int v100), .unset, .unset] [(.int (0 : Int32)), (.int v3), (.int q4), (.int rp106)]) (fun t k => XS.iload X106.here hx rfl (hb hby at_112) rfl k) ?_
        refine own_go (mkF m 116 #[.val (.int q1), .val (.int q2), .val (.int q3), .val (.int q4), .val (.int v3), .val (.int (0 : Int32)), .val (.int (1 : Int32)), .val (.int (0 : Int32)), .val (.ref b61), .val (.int v100), .unset, .unset] [(.int (0 : Int32)), (.int (0 : Int32)), (.int v3), (.int q4), (.int rp106)]) (fun t k => XS.iload X106.here hx rfl (hb hby at_114) rfl k) ?_
        refine own_go (mkF m 118 #[.val (.int q1), .val (.int q2), .val (.int q3), .val (.int q4), .val (.int v3), .val (.int (0 : Int32)), .val (.int (1 : Int32)), .val (.int (0 : Int32)), .val (.ref b61), .val (.int v100), .unset, .unset] [(.int (1 : Int32)), (.int (0 : Int32)), (.int (0 : Int32)), (.int v3), (.int q4), (.int rp106)]) (fun t k => XS.iload X106.here hx rfl (hb hby at_116) rfl k) ?_
        have lt118_2 : (0 : Int32).toInt = 0 := rfl
        have lt118_3 : (0 : Int32).toInt = 0 := rfl
        have lt118_4 : (1 : Int32).toInt = 1 := rfl
        refine own_callS X106 hx hZ (y := (⟨"com/example/chronoquorum/chronoquorum/LiveNodesPositionOfPinLaw", "expected", "(IIZIZ)I"⟩ : MethodName)) hown (hw _ (List.mem_of_getElem? (i := 21) rfl)) (hw _ (List.mem_of_getElem? (i := 22) rfl)) (hw _ (List.mem_of_getElem? (i := 23) rfl)) (hw _ (List.mem_of_getElem? (i := 24) rfl)) (by decide) e106 (rmE l Z a0 hw [] q4 v3 (0 : Int32) (0 : Int32) (1 : Int32) h91 n0 Z91 (by omega)) 1 (by decide) (by decide) (by decide) (by decide) (g := (mkF m 118 #[.val (.int q1), .val (.int q2), .val (.int q3), .val (.int q4), .val (.int v3), .val (.int (0 : Int32)), .val (.int (1 : Int32)), .val (.int (0 : Int32)), .val (.ref b61), .val (.int v100), .unset, .unset] [(.int (1 : Int32)), (.int (0 : Int32)), (.int (0 : Int32)), (.int v3), (.int q4), (.int rp106)])) rfl (by rw [hml]; rfl) [(.int q4), (.int v3), (.int (0 : Int32)), (.int (0 : Int32)), (.int (1 : Int32))] [(.int rp106)] (lenOf pd0_2 rfl) rfl rfl (by show 2 * 0 + _ ≤ _; exact Nat.le_of_eq rfl) (hb hby at_118) ?_
        intro rv118 T118 h118 L118 X118 e118 hQ118
        obtain ⟨⟨re118, rfl, hr118⟩, NQ118, eq118⟩ := hQ118
        rw [eq118] at e118
        have N118 := Fr.app N106 NQ118
        show own_Ends p e below s room_1.cells room_1.slots (Q0 Z q1 q2 q3 q4 h0 n0) T118 (mkF m 121 #[.val (.int q1), .val (.int q2), .val (.int q3), .val (.int q4), .val (.int v3), .val (.int (0 : Int32)), .val (.int (1 : Int32)), .val (.int (0 : Int32)), .val (.ref b61), .val (.int v100), .unset, .unset] [(.int re118), (.int rp106)])
        have c121 : rp106.toInt = re118.toInt := own_pos1 hr106 hr118 PX91 (by omega)
        refine own_go (mkF m 124 #[.val (.int q1), .val (.int q2), .val (.int q3), .val (.int q4), .val (.int v3), .val (.int (0 : Int32)), .val (.int (1 : Int32)), .val (.int (0 : Int32)), .val (.ref b61), .val (.int v100), .unset, .unset] []) (fun t k => XS.icmpNo X118.here hx rfl (hb hby at_121) rfl (own_icF (cd := .ne) (fun q => q c121)) k) ?_
        refine own_go (mkF m 125 #[.val (.int q1), .val (.int q2), .val (.int q3), .val (.int q4), .val (.int v3), .val (.int (0 : Int32)), .val (.int (1 : Int32)), .val (.int (0 : Int32)), .val (.ref b61), .val (.int v100), .unset, .unset] [(.int (1 : Int32))]) (fun t k => XS.iconst X118.here hx rfl (hb hby at_124) k) ?_
        refine own_go (mkF m 129 #[.val (.int q1), .val (.int q2), .val (.int q3), .val (.int q4), .val (.int v3), .val (.int (0 : Int32)), .val (.int (1 : Int32)), .val (.int (0 : Int32)), .val (.ref b61), .val (.int v100), .unset, .unset] [(.int (1 : Int32))]) (fun t k => XS.goto X118.here hx rfl (pc0 := 125) (pc' := 129) rfl (hb hby at_125) (by decide) (by decide) k) ?_
        refine own_go (mkF m 131 #[.val (.int q1), .val (.int q2), .val (.int q3), .val (.int q4), .val (.int v3), .val (.int (0 : Int32)), .val (.int (1 : Int32)), .val (.int (0 : Int32)), .val (.ref b61), .val (.int v100), .val (.int (1 : Int32)), .unset] []) (fun t k => XS.istore X118.here hx rfl (hb hby at_129) rfl (l' := #[.val (.int q1), .val (.int q2), .val (.int q3), .val (.int q4), .val (.int v3), .val (.int (0 : Int32)), .val (.int (1 : Int32)), .val (.int (0 : Int32)), .val (.ref b61), .val (.int v100), .val (.int (1 : Int32)), .unset]) rfl k) ?_
        refine own_go (mkF m 133 #[.val (.int q1), .val (.int q2), .val (.int q3), .val (.int q4), .val (.int v3), .val (.int (0 : Int32)), .val (.int (1 : Int32)), .val (.int (0 : Int32)), .val (.ref b61), .val (.int v100), .val (.int (1 : Int32)), .unset] [(.ref b61)]) (fun t k => XS.aload X118.here hx rfl (hb hby at_131) rfl rfl k) ?_
        refine own_go (mkF m 135 #[.val (.int q1), .val (.int q2), .val (.int q3), .val (.int q4), .val (.int v3), .val (.int (0 : Int32)), .val (.int (1 : Int32)), .val (.int (0 : Int32)), .val (.ref b61), .val (.int v100), .val (.int (1 : Int32)), .unset] [(.int v100), (.ref b61)]) (fun t k => XS.iload X118.here hx rfl (hb hby at_133) rfl k) ?_
        refine own_callV X118 hx hZ (y := (⟨"com/example/chronoquorum/chronoquorum/LiveNodes", "positionOf", "(I)I"⟩ : MethodName)) hown (hw _ (List.mem_of_getElem? (i := 14) rfl)) (hw _ (List.mem_of_getElem? (i := 15) rfl)) (hw _ (List.mem_of_getElem? (i := 17) rfl)) (hw _ (List.mem_of_getElem? (i := 16) rfl)) (hw _ (List.mem_of_getElem? (i := 2) rfl)) (hw _ (List.mem_of_getElem? (i := 18) rfl)) (by decide) e118 b61 E91 (rm4 l Z a0 hw [] b61 v100 ap91 la91 nP91 P91 h91 n0 Z91 E91 Fp91 Fl91 Ap91 (by omega) ) 0 (by decide) (by decide) (by decide) (by decide) (g := (mkF m 135 #[.val (.int q1), .val (.int q2), .val (.int q3), .val (.int q4), .val (.int v3), .val (.int (0 : Int32)), .val (.int (1 : Int32)), .val (.int (0 : Int32)), .val (.ref b61), .val (.int v100), .val (.int (1 : Int32)), .unset] [(.int v100), (.ref b61)])) rfl (by rw [hml]; rfl) [(.int v100)] [] (lenOf pd0_1 rfl) rfl rfl (by show 2 * 0 + _ ≤ _; exact Nat.le_of_eq rfl) (hb hby at_135) ?_
        intro rv135 T135 h135 L135 X135 e135 hQ135
        obtain ⟨⟨rp135, rfl, hr135⟩, NQ135, eq135⟩ := hQ135
        rw [eq135] at e135
        have rr135 := rng32 rp135
        have N135 := Fr.app N118 NQ135
        show own_Ends p e below s room_1.cells room_1.slots (Q0 Z q1 q2 q3 q4 h0 n0) T135 (mkF m 138 #[.val (.int q1), .val (.int q2), .val (.int q3), .val (.int q4), .val (.int v3), .val (.int (0 : Int32)), .val (.int (1 : Int32)), .val (.int (0 : Int32)), .val (.ref b61), .val (.int v100), .val (.int (1 : Int32)), .unset] [(.int rp135)])
        refine own_go (mkF m 140 #[.val (.int q1), .val (.int q2), .val (.int q3), .val (.int q4), .val (.int v3), .val (.int (0 : Int32)), .val (.int (1 : Int32)), .val (.int (0 : Int32)), .val (.ref b61), .val (.int v100), .val (.int (1 : Int32)), .unset] [(.int v100), (.int rp135)]) (fun t k => XS.iload X135.here hx rfl (hb hby at_138) rfl k) ?_
        refine own_go (mkF m 142 #[.val (.int q1), .val (.int q2), .val (.int q3), .val (.int q4), .val (.int v3), .val (.int (0 : Int32)), .val (.int (1 : Int32)), .val (.int (0 : Int32)), .val (.ref b61), .val (.int v100), .val (.int (1 : Int32)), .unset] [(.int v3), (.int v100), (.int rp135)]) (fun t k => XS.iload X135.here hx rfl (hb hby at_140) rfl k) ?_
        refine own_go (mkF m 144 #[.val (.int q1), .val (.int q2), .val (.int q3), .val (.int q4), .val (.int v3), .val (.int (0 : Int32)), .val (.int (1 : Int32)), .val (.int (0 : Int32)), .val (.ref b61), .val (.int v100), .val (.int (1 : Int32)), .unset] [(.int (0 : Int32)), (.int v3), (.int v100), (.int rp135)]) (fun t k => XS.iload X135.here hx rfl (hb hby at_142) rfl k) ?_
        refine own_go (mkF m 146 #[.val (.int q1), .val (.int q2), .val (.int q3), .val (.int q4), .val (.int v3), .val (.int (0 : Int32)), .val (.int (1 : Int32)), .val (.int (0 : Int32)), .val (.ref b61), .val (.int v100), .val (.int (1 : Int32)), .unset] [(.int (0 : Int32)), (.int (0 : Int32)), (.int v3), (.int v100), (.int rp135)]) (fun t k => XS.iload X135.here hx rfl (hb hby at_144) rfl k) ?_
        refine own_go (mkF m 148 #[.val (.int q1), .val (.int q2), .val (.int q3), .val (.int q4), .val (.int v3), .val (.int (0 : Int32)), .val (.int (1 : Int32)), .val (.int (0 : Int32)), .val (.ref b61), .val (.int v100), .val (.int (1 : Int32)), .unset] [(.int (1 : Int32)), (.int (0 : Int32)), (.int (0 : Int32)), (.int v3), (.int v100), (.int rp135)]) (fun t k => XS.iload X135.here hx rfl (hb hby at_146) rfl k) ?_
        have lt148_2 : (0 : Int32).toInt = 0 := rfl
        have lt148_3 : (0 : Int32).toInt = 0 := rfl
        have lt148_4 : (1 : Int32).toInt = 1 := rfl
        refine own_callS X135 hx hZ (y := (⟨"com/example/chronoquorum/chronoquorum/LiveNodesPositionOfPinLaw", "expected", "(IIZIZ)I"⟩ : MethodName)) hown (hw _ (List.mem_of_getElem? (i := 21) rfl)) (hw _ (List.mem_of_getElem? (i := 22) rfl)) (hw _ (List.mem_of_getElem? (i := 23) rfl)) (hw _ (List.mem_of_getElem? (i := 24) rfl)) (by decide) e135 (rmE l Z a0 hw [] v100 v3 (0 : Int32) (0 : Int32) (1 : Int32) h91 n0 Z91 (by omega)) 1 (by decide) (by decide) (by decide) (by decide) (g := (mkF m 148 #[.val (.int q1), .val (.int q2), .val (.int q3), .val (.int q4), .val (.int v3), .val (.int (0 : Int32)), .val (.int (1 : Int32)), .val (.int (0 : Int32)), .val (.ref b61), .val (.int v100), .val (.int (1 : Int32)), .unset] [(.int (1 : Int32)), (.int (0 : Int32)), (.int (0 : Int32)), (.int v3), (.int v100), (.int rp135)])) rfl (by rw [hml]; rfl) [(.int v100), (.int v3), (.int (0 : Int32)), (.int (0 : Int32)), (.int (1 : Int32))] [(.int rp135)] (lenOf pd0_2 rfl) rfl rfl (by show 2 * 0 + _ ≤ _; exact Nat.le_of_eq rfl) (hb hby at_148) ?_
        intro rv148 T148 h148 L148 X148 e148 hQ148
        obtain ⟨⟨re148, rfl, hr148⟩, NQ148, eq148⟩ := hQ148
        rw [eq148] at e148
        have N148 := Fr.app N135 NQ148
        show own_Ends p e below s room_1.cells room_1.slots (Q0 Z q1 q2 q3 q4 h0 n0) T148 (mkF m 151 #[.val (.int q1), .val (.int q2), .val (.int q3), .val (.int q4), .val (.int v3), .val (.int (0 : Int32)), .val (.int (1 : Int32)), .val (.int (0 : Int32)), .val (.ref b61), .val (.int v100), .val (.int (1 : Int32)), .unset] [(.int re148), (.int rp135)])
        have c151 : rp135.toInt = re148.toInt := own_pos1 hr135 hr148 PX91 (by omega)
        refine own_go (mkF m 154 #[.val (.int q1), .val (.int q2), .val (.int q3), .val (.int q4), .val (.int v3), .val (.int (0 : Int32)), .val (.int (1 : Int32)), .val (.int (0 : Int32)), .val (.ref b61), .val (.int v100), .val (.int (1 : Int32)), .unset] []) (fun t k => XS.icmpNo X148.here hx rfl (hb hby at_151) rfl (own_icF (cd := .ne) (fun q => q c151)) k) ?_
        refine own_go (mkF m 155 #[.val (.int q1), .val (.int q2), .val (.int q3), .val (.int q4), .val (.int v3), .val (.int (0 : Int32)), .val (.int (1 : Int32)), .val (.int (0 : Int32)), .val (.ref b61), .val (.int v100), .val (.int (1 : Int32)), .unset] [(.int (1 : Int32))]) (fun t k => XS.iconst X148.here hx rfl (hb hby at_154) k) ?_
        refine own_go (mkF m 159 #[.val (.int q1), .val (.int q2), .val (.int q3), .val (.int q4), .val (.int v3), .val (.int (0 : Int32)), .val (.int (1 : Int32)), .val (.int (0 : Int32)), .val (.ref b61), .val (.int v100), .val (.int (1 : Int32)), .unset] [(.int (1 : Int32))]) (fun t k => XS.goto X148.here hx rfl (pc0 := 155) (pc' := 159) rfl (hb hby at_155) (by decide) (by decide) k) ?_
        refine own_go (mkF m 161 #[.val (.int q1), .val (.int q2), .val (.int q3), .val (.int q4), .val (.int v3), .val (.int (0 : Int32)), .val (.int (1 : Int32)), .val (.int (0 : Int32)), .val (.ref b61), .val (.int v100), .val (.int (1 : Int32)), .val (.int (1 : Int32))] []) (fun t k => XS.istore X148.here hx rfl (hb hby at_159) rfl (l' := #[.val (.int q1), .val (.int q2), .val (.int q3), .val (.int q4), .val (.int v3), .val (.int (0 : Int32)), .val (.int (1 : Int32)), .val (.int (0 : Int32)), .val (.ref b61), .val (.int v100), .val (.int (1 : Int32)), .val (.int (1 : Int32))]) rfl k) ?_
        refine own_go (mkF m 163 #[.val (.int q1), .val (.int q2), .val (.int q3), .val (.int q4), .val (.int v3), .val (.int (0 : Int32)), .val (.int (1 : Int32)), .val (.int (0 : Int32)), .val (.ref b61), .val (.int v100), .val (.int (1 : Int32)), .val (.int (1 : Int32))] [(.int (1 : Int32))]) (fun t k => XS.iload X148.here hx rfl (hb hby at_161) rfl k) ?_
        refine own_go (mkF m 166 #[.val (.int q1), .val (.int q2), .val (.int q3), .val (.int q4), .val (.int v3), .val (.int (0 : Int32)), .val (.int (1 : Int32)), .val (.int (0 : Int32)), .val (.ref b61), .val (.int v100), .val (.int (1 : Int32)), .val (.int (1 : Int32))] []) (fun t k => XS.ifNo X148.here hx rfl (hb hby at_163) rfl (by decide) k) ?_
        refine own_go (mkF m 168 #[.val (.int q1), .val (.int q2), .val (.int q3), .val (.int q4), .val (.int v3), .val (.int (0 : Int32)), .val (.int (1 : Int32)), .val (.int (0 : Int32)), .val (.ref b61), .val (.int v100), .val (.int (1 : Int32)), .val (.int (1 : Int32))] [(.int (1 : Int32))]) (fun t k => XS.iload X148.here hx rfl (hb hby at_166) rfl k) ?_
        refine own_go (mkF m 171 #[.val (.int q1), .val (.int q2), .val (.int q3), .val (.int q4), .val (.int v3), .val (.int (0 : Int32)), .val (.int (1 : Int32)), .val (.int (0 : Int32)), .val (.ref b61), .val (.int v100), .val (.int (1 : Int32)), .val (.int (1 : Int32))] []) (fun t k => XS.ifNo X148.here hx rfl (hb hby at_168) rfl (by decide) k) ?_
        refine own_go (mkF m 172 #[.val (.int q1), .val (.int q2), .val (.int q3), .val (.int q4), .val (.int v3), .val (.int (0 : Int32)), .val (.int (1 : Int32)), .val (.int (0 : Int32)), .val (.ref b61), .val (.int v100), .val (.int (1 : Int32)), .val (.int (1 : Int32))] [(.int (1 : Int32))]) (fun t k => XS.iconst X148.here hx rfl (hb hby at_171) k) ?_
        refine own_go (mkF m 176 #[.val (.int q1), .val (.int q2), .val (.int q3), .val (.int q4), .val (.int v3), .val (.int (0 : Int32)), .val (.int (1 : Int32)), .val (.int (0 : Int32)), .val (.ref b61), .val (.int v100), .val (.int (1 : Int32)), .val (.int (1 : Int32))] [(.int (1 : Int32))]) (fun t k => XS.goto X148.here hx rfl (pc0 := 172) (pc' := 176) rfl (hb hby at_172) (by decide) (by decide) k) ?_
        refine own_retI X148 hx hlk hret (by simp) rfl (hb hby at_176) (by decide) (by decide) ?_
        rw [e148]
        exact ⟨rfl, N148⟩
      · skip
        refine own_go (mkF m 46 #[.val (.int q1), .val (.int q2), .val (.int q3), .val (.int q4), .val (.int v3), .val (.int (0 : Int32)), .val (.int (1 : Int32)), .unset, .unset, .unset, .unset, .unset] []) (fun t k => XS.ifNo X0.here hx rfl (hb hby at_43) rfl (own_zF (cd := .le) c43) k) ?_
        refine own_go (mkF m 47 #[.val (.int q1), .val (.int q2), .val (.int q3), .val (.int q4), .val (.int v3), .val (.int (0 : Int32)), .val (.int (1 : Int32)), .unset, .unset, .unset, .unset, .unset] [(.int q3)]) (fun t k => XS.iloadN X0.here hx rfl (hb hby at_46) rfl k) ?_
        refine own_go (mkF m 49 #[.val (.int q1), .val (.int q2), .val (.int q3), .val (.int q4), .val (.int v3), .val (.int (0 : Int32)), .val (.int (1 : Int32)), .unset, .unset, .unset, .unset, .unset] [(.int (2147483647 : Int32)), (.int q3)]) (fun t k => X0.ldcInt hx hown (mvT hZ (hw _ (List.mem_of_getElem? (i := 25) rfl))) (g := (mkF m 47 #[.val (.int q1), .val (.int q2), .val (.int q3), .val (.int q4), .val (.int v3), .val (.int (0 : Int32)), .val (.int (1 : Int32)), .unset, .unset, .unset, .unset, .unset] [(.int q3)])) rfl (hb hby at_47) _ k) ?_
        refine own_go (mkF m 50 #[.val (.int q1), .val (.int q2), .val (.int q3), .val (.int q4), .val (.int v3), .val (.int (0 : Int32)), .val (.int (1 : Int32)), .unset, .unset, .unset, .unset, .unset] [(.int (q3 &&& (2147483647 : Int32)))]) (fun t k => XS.iand X0.here hx rfl (hb hby at_49) rfl k) ?_
        generalize hv49 : (q3 &&& (2147483647 : Int32)) = v49
        have f49 : v49.toInt = q3.toInt % 2147483648 := by rw [← hv49]; exact c_mask q3 (2147483647 : Int32) 31 (by decide) (by decide)
        have r49 := rng32 v49
        refine own_go (mkF m 52 #[.val (.int q1), .val (.int q2), .val (.int q3), .val (.int q4), .val (.int v3), .val (.int (0 : Int32)), .val (.int (1 : Int32)), .unset, .unset, .unset, .unset, .unset] [(.int v3), (.int v49)]) (fun t k => XS.iload X0.here hx rfl (hb hby at_50) rfl k) ?_
        refine own_go (mkF m 53 #[.val (.int q1), .val (.int q2), .val (.int q3), .val (.int q4), .val (.int v3), .val (.int (0 : Int32)), .val (.int (1 : Int32)), .unset, .unset, .unset, .unset, .unset] [(.int (v49 % v3))]) (fun t k => Jvm.RoadKit.iremM X0 hx rfl (hb hby at_52) rfl (own_nz32 (by omega)) k) ?_
        generalize hv52 : (v49 % v3) = v52
        have f52 : 0 ≤ v49.toInt → 0 < v3.toInt → 0 ≤ v52.toInt ∧ v52.toInt < v3.toInt ∧ v52.toInt ≤ v49.toInt := by rw [← hv52]; exact own_iremV v49 v3
        have r52 := rng32 v52
        refine own_go (mkF m 54 #[.val (.int q1), .val (.int q2), .val (.int q3), .val (.int q4), .val (.int v3), .val (.int (0 : Int32)), .val (.int (1 : Int32)), .unset, .unset, .unset, .unset, .unset] [(.int (1 : Int32)), (.int v52)]) (fun t k => XS.iconst X0.here hx rfl (hb hby at_53) k) ?_
        refine own_go (mkF m 55 #[.val (.int q1), .val (.int q2), .val (.int q3), .val (.int q4), .val (.int v3), .val (.int (0 : Int32)), .val (.int (1 : Int32)), .unset, .unset, .unset, .unset, .unset] [(.int (v52 + (1 : Int32)))]) (fun t k => XS.iadd X0.here hx rfl (hb hby at_54) rfl k) ?_
        generalize hv54 : (v52 + (1 : Int32)) = v54
        have f54 : (v54.toInt - (v52.toInt + 1)) % 4294967296 = 0 := by rw [← hv54]; exact c_iadd v52 (1 : Int32)
        have r54 := rng32 v54
        have k54 : 1 ≤ v54.toInt ∧ v54.toInt ≤ v3.toInt := by omega
        clear f49 f52 f54 r49 r52 r54
        refine own_go (mkF m 59 #[.val (.int q1), .val (.int q2), .val (.int q3), .val (.int q4), .val (.int v3), .val (.int (0 : Int32)), .val (.int (1 : Int32)), .unset, .unset, .unset, .unset, .unset] [(.int v54)]) (fun t k => XS.goto X0.here hx rfl (pc0 := 55) (pc' := 59) rfl (hb hby at_55) (by decide) (by decide) k) ?_
        refine own_go (mkF m 61 #[.val (.int q1), .val (.int q2), .val (.int q3), .val (.int q4), .val (.int v3), .val (.int (0 : Int32)), .val (.int (1 : Int32)), .val (.int v54), .unset, .unset, .unset, .unset] []) (fun t k => XS.istore X0.here hx rfl (hb hby at_59) rfl (l' := #[.val (.int q1), .val (.int q2), .val (.int q3), .val (.int q4), .val (.int v3), .val (.int (0 : Int32)), .val (.int (1 : Int32)), .val (.int v54), .unset, .unset, .unset, .unset]) rfl k) ?_
        obtain ⟨T61, h61, X61, e61, E61, A61, D61, -, st61⟩ := newO X0 hx hZ hown (hw _ (List.mem_of_getElem? (i := 0) rfl)) (hw _ (List.mem_of_getElem? (i := 1) rfl)) (hw _ (List.mem_of_getElem? (i := 2) rfl)) e0 (g := (mkF m 61 #[.val (.int q1), .val (.int q2), .val (.int q3), .val (.int q4), .val (.int v3), .val (.int (0 : Int32)), .val (.int (1 : Int32)), .val (.int v54), .unset, .unset, .unset, .unset] [])) rfl (hb hby at_61) (by decide) (by decide)
        obtain ⟨b61, g61⟩ : ∃ z, z = h0.size := ⟨_, rfl⟩
        rw [← g61] at A61 D61 st61
        have gb61 : n0 ≤ b61 := Nat.le_trans Z0 (Nat.le_of_eq g61.symm)
        have Z0_61 : n0 ≤ h61.size := Nat.le_trans Z0 E61.1
        have F_ids_b61 : Fld Z h61 b61 "com/example/chronoquorum/chronoquorum/LiveNodes" "ids" "[I" (.null) := D61 (Or.inl (hw _ (List.mem_of_getElem? (i := 11) rfl))) (ty := (.array .int)) (by decide)
        have F_positions_b61 : Fld Z h61 b61 "com/example/chronoquorum/chronoquorum/LiveNodes" "positions" "[I" (.null) := D61 (Or.inl (hw _ (List.mem_of_getElem? (i := 13) rfl))) (ty := (.array .int)) (by decide)
        have F_lastId_b61 : Fld Z h61 b61 "com/example/chronoquorum/chronoquorum/LiveNodes" "lastId" "I" (.int (0 : Int32)) := D61 (Or.inl (hw _ (List.mem_of_getElem? (i := 20) rfl))) (ty := .int) (by decide)
        have F_size_b61 : Fld Z h61 b61 "com/example/chronoquorum/chronoquorum/LiveNodes" "size" "I" (.int (0 : Int32)) := D61 (Or.inl (hw _ (List.mem_of_getElem? (i := 37) rfl))) (ty := .int) (by decide)
        refine own_go (T' := T61) (mkF m 64 #[.val (.int q1), .val (.int q2), .val (.int q3), .val (.int q4), .val (.int v3), .val (.int (0 : Int32)), .val (.int (1 : Int32)), .val (.int v54), .unset, .unset, .unset, .unset] [(.ref b61)]) st61 ?_
        refine own_go (mkF m 65 #[.val (.int q1), .val (.int q2), .val (.int q3), .val (.int q4), .val (.int v3), .val (.int (0 : Int32)), .val (.int (1 : Int32)), .val (.int v54), .unset, .unset, .unset, .unset] [(.ref b61), (.ref b61)]) (fun t k => XS.dup X61.here hx rfl (hb hby at_64) rfl rfl k) ?_
        refine own_go (mkF m 67 #[.val (.int q1), .val (.int q2), .val (.int q3), .val (.int q4), .val (.int v3), .val (.int (0 : Int32)), .val (.int (1 : Int32)), .val (.int v54), .unset, .unset, .unset, .unset] [(.int v3), (.ref b61), (.ref b61)]) (fun t k => XS.iload X61.here hx rfl (hb hby at_65) rfl k) ?_
        refine own_callI X61 hx hZ (y := (⟨"com/example/chronoquorum/chronoquorum/LiveNodes", "<init>", "(I)V"⟩ : MethodName)) hown rfl (hw _ (List.mem_of_getElem? (i := 3) rfl)) (hw _ (List.mem_of_getElem? (i := 4) rfl)) (hw _ (List.mem_of_getElem? (i := 2) rfl)) (hw _ (List.mem_of_getElem? (i := 5) rfl)) (by decide) e61 (rm1 l Z a0 hw [] b61 v3 h61 n0 Z0_61 A61 F_ids_b61 F_positions_b61 F_lastId_b61 F_size_b61 gb61 (by omega)) 1 (by decide) (by decide) (by decide) (by decide) (g := (mkF m 67 #[.val (.int q1), .val (.int q2), .val (.int q3), .val (.int q4), .val (.int v3), .val (.int (0 : Int32)), .val (.int (1 : Int32)), .val (.int v54), .unset, .unset, .unset, .unset] [(.int v3), (.ref b61), (.ref b61)])) rfl (by rw [hml]; rfl) b61 [(.int v3)] [(.ref b61)] (lenOf pd0_0 rfl) rfl rfl (by show 2 * 0 + _ ≤ _; exact Nat.le_of_eq rfl) (hb hby at_67) ?_
        intro rv67 T67 h67 L67 X67 e67 hQ67
        obtain ⟨rfl, NQ67, KQ67, ai, ap, sz, la, nI, nP, I, P, EQ, Fi, Fp, Fs, Fl, Ai, Ap, gai, gap, ne1, ne2, ne3, hsz, hla, hnI, hnP, hini⟩ := hQ67
        have Z67 : n0 ≤ h67.size := Nat.le_trans Z0_61 KQ67.1
        have rsz := rng32 sz
        have rla := rng32 la
        have V0 : own_V sz.toInt la.toInt I P := by rw [hsz, hla]; exact own_V_start (by omega) hini
        have D0 : own_D P la.toInt 0 0 := by rw [hla]; exact own_D0 hini.2
        have N67 := Fr.app N0 NQ67
        show own_Ends p e below s room_1.cells room_1.slots (Q0 Z q1 q2 q3 q4 h0 n0) T67 (mkF m 70 #[.val (.int q1), .val (.int q2), .val (.int q3), .val (.int q4), .val (.int v3), .val (.int (0 : Int32)), .val (.int (1 : Int32)), .val (.int v54), .unset, .unset, .unset, .unset] [(.ref b61)])
        have PX0 : own_X P v3.toInt v3.toInt 0 v54.toInt 0 := own_X0 hini.2
        have r3' : 0 ≤ v3.toInt ∧ v3.toInt ≤ 7 := by omega
        clear f3
        refine own_go (mkF m 72 #[.val (.int q1), .val (.int q2), .val (.int q3), .val (.int q4), .val (.int v3), .val (.int (0 : Int32)), .val (.int (1 : Int32)), .val (.int v54), .val (.ref b61), .unset, .unset, .unset] []) (fun t k => XS.astore X67.here hx rfl (hb hby at_70) rfl rfl (l' := #[.val (.int q1), .val (.int q2), .val (.int q3), .val (.int q4), .val (.int v3), .val (.int (0 : Int32)), .val (.int (1 : Int32)), .val (.int v54), .val (.ref b61), .unset, .unset, .unset]) rfl k) ?_
        refine own_go (mkF m 74 #[.val (.int q1), .val (.int q2), .val (.int q3), .val (.int q4), .val (.int v3), .val (.int (0 : Int32)), .val (.int (1 : Int32)), .val (.int v54), .val (.ref b61), .unset, .unset, .unset] [(.int (0 : Int32))]) (fun t k => XS.iload X67.here hx rfl (hb hby at_72) rfl k) ?_
        refine own_go (mkF m 84 #[.val (.int q1), .val (.int q2), .val (.int q3), .val (.int q4), .val (.int v3), .val (.int (0 : Int32)), .val (.int (1 : Int32)), .val (.int v54), .val (.ref b61), .unset, .unset, .unset] []) (fun t k => XS.ifYes X67.here hx rfl (pc0 := 74) (pc' := 84) rfl (hb hby at_74) rfl (by decide) (by decide) (by decide) k) ?_
        refine own_go (mkF m 86 #[.val (.int q1), .val (.int q2), .val (.int q3), .val (.int q4), .val (.int v3), .val (.int (0 : Int32)), .val (.int (1 : Int32)), .val (.int v54), .val (.ref b61), .unset, .unset, .unset] [(.int (1 : Int32))]) (fun t k => XS.iload X67.here hx rfl (hb hby at_84) rfl k) ?_
        refine own_go (mkF m 89 #[.val (.int q1), .val (.int q2), .val (.int q3), .val (.int q4), .val (.int v3), .val (.int (0 : Int32)), .val (.int (1 : Int32)), .val (.int v54), .val (.ref b61), .unset, .unset, .unset] []) (fun t k => XS.ifNo X67.here hx rfl (hb hby at_86) rfl (by decide) k) ?_
        refine own_go (mkF m 91 #[.val (.int q1), .val (.int q2), .val (.int q3), .val (.int q4), .val (.int v3), .val (.int (0 : Int32)), .val (.int (1 : Int32)), .val (.int v54), .val (.ref b61), .unset, .unset, .unset] [(.ref b61)]) (fun t k => XS.aload X67.here hx rfl (hb hby at_89) rfl rfl k) ?_
        obtain ⟨zI, hzI⟩ := own_z32 nI (by omega)
        obtain ⟨zP, hzP⟩ := own_z32 nP (by omega)
        have vj91 := V0.1
        refine own_callV X67 hx hZ (y := (⟨"com/example/chronoquorum/chronoquorum/LiveNodes", "join", "()I"⟩ : MethodName)) hown (hw _ (List.mem_of_getElem? (i := 54) rfl)) (hw _ (List.mem_of_getElem? (i := 27) rfl)) (hw _ (List.mem_of_getElem? (i := 29) rfl)) (hw _ (List.mem_of_getElem? (i := 28) rfl)) (hw _ (List.mem_of_getElem? (i := 2) rfl)) (hw _ (List.mem_of_getElem? (i := 30) rfl)) (by decide) e67 b61 EQ (rmJ l Z a0 hw [] b61 ai ap sz la nI nP I P zI zP h67 n0 Z67 EQ Fi Fp Fs Fl Ai Ap gb61 gai gap ne1 ne2 ne3 hzI hzP (by omega)) 0 (by decide) (by decide) (by decide) (by decide) (g := (mkF m 91 #[.val (.int q1), .val (.int q2), .val (.int q3), .val (.int q4), .val (.int v3), .val (.int (0 : Int32)), .val (.int (1 : Int32)), .val (.int v54), .val (.ref b61), .unset, .unset, .unset] [(.ref b61)])) rfl (by rw [hml]; rfl) [] [] (lenOf pd0_3 rfl) rfl rfl (by show 2 * 0 + _ ≤ _; exact Nat.le_of_eq rfl) (hb hby at_91) ?_
        intro rv91 T91 h91 L91 X91 e91 hQ91
        obtain ⟨⟨rj91, rfl, -⟩, NQ91, KQ91, ai91, ap91, sz91, la91, nI91, nP91, I91, P91, E91, Fi91, Fp91, Fs91, Fl91, Ai91, Ap91, ga91, gp91, n191, n291, n391, hs91, hl91, hnI91, hnP91, hj91⟩ := hQ91
        have Z91 : n0 ≤ h91.size := Nat.le_trans Z67 KQ91.1
        have rs91 := rng32 sz91
        have rl91 := rng32 la91
        have V91 : own_V sz91.toInt la91.toInt I91 P91 := by rw [hs91, hl91]; exact own_V_join V0 hj91
        have lv91 := own_jn_live (by omega) hj91
        have D91 : own_D P91 la91.toInt 0 0 := own_D_j D0 hl91 (by omega) (by omega) lv91
        have N91 := Fr.app N67 NQ91
        show own_Ends p e below s room_1.cells room_1.slots (Q0 Z q1 q2 q3 q4 h0 n0) T91 (mkF m 94 #[.val (.int q1), .val (.int q2), .val (.int q3), .val (.int q4), .val (.int v3), .val (.int (0 : Int32)), .val (.int (1 : Int32)), .val (.int v54), .val (.ref b61), .unset, .unset, .unset] [(.int rj91)])
        have PX91 : own_X P91 (v3.toInt + 1) v3.toInt 0 v54.toInt 1 := own_X_join PX0 (by omega) (by omega) (hsz) hla hj91
        refine own_go (mkF m 95 #[.val (.int q1), .val (.int q2), .val (.int q3), .val (.int q4), .val (.int v3), .val (.int (0 : Int32)), .val (.int (1 : Int32)), .val (.int v54), .val (.ref b61), .unset, .unset, .unset] []) (fun t k => XS.pop X91.here hx rfl (hb hby at_94) rfl rfl k) ?_
        refine own_go (mkF m 96 #[.val (.int q1), .val (.int q2), .val (.int q3), .val (.int q4), .val (.int v3), .val (.int (0 : Int32)), .val (.int (1 : Int32)), .val (.int v54), .val (.ref b61), .unset, .unset, .unset] [(.int q2)]) (fun t k => XS.iloadN X91.here hx rfl (hb hby at_95) rfl k) ?_
        refine own_go (mkF m 98 #[.val (.int q1), .val (.int q2), .val (.int q3), .val (.int q4), .val (.int v3), .val (.int (0 : Int32)), .val (.int (1 : Int32)), .val (.int v54), .val (.ref b61), .unset, .unset, .unset] [(.int (15 : Int32)), (.int q2)]) (fun t k => XS.bipush X91.here hx rfl (hb hby at_96) k) ?_
        refine own_go (mkF m 99 #[.val (.int q1), .val (.int q2), .val (.int q3), .val (.int q4), .val (.int v3), .val (.int (0 : Int32)), .val (.int (1 : Int32)), .val (.int v54), .val (.ref b61), .unset, .unset, .unset] [(.int (q2 &&& (15 : Int32)))]) (fun t k => XS.iand X91.here hx rfl (hb hby at_98) rfl k) ?_
        generalize hv98 : (q2 &&& (15 : Int32)) = v98
        have f98 : v98.toInt = q2.toInt % 16 := by rw [← hv98]; exact c_mask q2 (15 : Int32) 4 (by decide) (by decide)
        have r98 := rng32 v98
        refine own_go (mkF m 100 #[.val (.int q1), .val (.int q2), .val (.int q3), .val (.int q4), .val (.int v3), .val (.int (0 : Int32)), .val (.int (1 : Int32)), .val (.int v54), .val (.ref b61), .unset, .unset, .unset] [(.int (1 : Int32)), (.int v98)]) (fun t k => XS.iconst X91.here hx rfl (hb hby at_99) k) ?_
        refine own_go (mkF m 101 #[.val (.int q1), .val (.int q2), .val (.int q3), .val (.int q4), .val (.int v3), .val (.int (0 : Int32)), .val (.int (1 : Int32)), .val (.int v54), .val (.ref b61), .unset, .unset, .unset] [(.int (v98 - (1 : Int32)))]) (fun t k => XS.isub X91.here hx rfl (hb hby at_100) rfl k) ?_
        generalize hv100 : (v98 - (1 : Int32)) = v100
        have f100 : (v100.toInt - (v98.toInt - 1)) % 4294967296 = 0 := by rw [← hv100]; exact c_isub v98 (1 : Int32)
        have r100 := rng32 v100
        refine own_go (mkF m 103 #[.val (.int q1), .val (.int q2), .val (.int q3), .val (.int q4), .val (.int v3), .val (.int (0 : Int32)), .val (.int (1 : Int32)), .val (.int v54), .val (.ref b61), .val (.int v100), .unset, .unset] []) (fun t k => XS.istore X91.here hx rfl (hb hby at_101) rfl (l' := #[.val (.int q1), .val (.int q2), .val (.int q3), .val (.int q4), .val (.int v3), .val (.int (0 : Int32)), .val (.int (1 : Int32)), .val (.int v54), .val (.ref b61), .val (.int v100), .unset, .unset]) rfl k) ?_
        refine own_go (mkF m 105 #[.val (.int q1), .val (.int q2), .val (.int q3), .val (.int q4), .val (.int v3), .val (.int (0 : Int32)), .val (.int (1 : Int32)), .val (.int v54), .val (.ref b61), .val (.int v100), .unset, .unset] [(.ref b61)]) (fun t k => XS.aload X91.here hx rfl (hb hby at_103) rfl rfl k) ?_
        refine own_go (mkF m 106 #[.val (.int q1), .val (.int q2), .val (.int q3), .val (.int q4), .val (.int v3), .val (.int (0 : Int32)), .val (.int (1 : Int32)), .val (.int v54), .val (.ref b61), .val (.int v100), .unset, .unset] [(.int q4), (.ref b61)]) (fun t k => XS.iloadN X91.here hx rfl (hb hby at_105) rfl k) ?_
        refine own_callV X91 hx hZ (y := (⟨"com/example/chronoquorum/chronoquorum/LiveNodes", "positionOf", "(I)I"⟩ : MethodName)) hown (hw _ (List.mem_of_getElem? (i := 14) rfl)) (hw _ (List.mem_of_getElem? (i := 15) rfl)) (hw _ (List.mem_of_getElem? (i := 17) rfl)) (hw _ (List.mem_of_getElem? (i := 16) rfl)) (hw _ (List.mem_of_getElem? (i := 2) rfl)) (hw _ (List.mem_of_getElem? (i := 18) rfl)) (by decide) e91 b61 E91 (rm4 l Z a0 hw [] b61 q4 ap91 la91 nP91 P91 h91 n0 Z91 E91 Fp91 Fl91 Ap91 (by omega) ) 0 (by decide) (by decide) (by decide) (by decide) (g := (mkF m 106 #[.val (.int q1), .val (.int q2), .val (.int q3), .val (.int q4), .val (.int v3), .val (.int (0 : Int32)), .val (.int (1 : Int32)), .val (.int v54), .val (.ref b61), .val (.int v100), .unset, .unset] [(.int q4), (.ref b61)])) rfl (by rw [hml]; rfl) [(.int q4)] [] (lenOf pd0_1 rfl) rfl rfl (by show 2 * 0 + _ ≤ _; exact Nat.le_of_eq rfl) (hb hby at_106) ?_
        intro rv106 T106 h106 L106 X106 e106 hQ106
        obtain ⟨⟨rp106, rfl, hr106⟩, NQ106, eq106⟩ := hQ106
        rw [eq106] at e106
        have rr106 := rng32 rp106
        have N106 := Fr.app N91 NQ106
        show own_Ends p e below s room_1.cells room_1.slots (Q0 Z q1 q2 q3 q4 h0 n0) T106 (mkF m 109 #[.val (.int q1), .val (.int q2), .val (.int q3), .val (.int q4), .val (.int v3), .val (.int (0 : Int32)), .val (.int (1 : Int32)), .val (.int v54), .val (.ref b61), .val (.int v100), .unset, .unset] [(.int rp106)])
        refine own_go (mkF m 110 #[.val (.int q1), .val (.int q2), .val (.int q3), .val (.int q4), .val (.int v3), .val (.int (0 : Int32)), .val (.int (1 : Int32)), .val (.int v54), .val (.ref b61), .val (.int v100), .unset, .unset] [(.int q4), (.int rp106)]) (fun t k => XS.iloadN X106.here hx rfl (hb hby at_109) rfl k) ?_
        refine own_go (mkF m 112 #[.val (.int q1), .val (.int q2), .val (.int q3), .val (.int q4), .val (.int v3), .val (.int (0 : Int32)), .val (.int (1 : Int32)), .val (.int v54), .val (.ref b61), .val (.int v100), .unset, .unset] [(.int v3), (.int q4), (.int rp106)]) (fun t k => XS.iload X106.here hx rfl (hb hby at_110) rfl k) ?_
        refine own_go (mkF m 114 #[.val (.int q1), .val (.int q2), .val (.int q3), .val (.int q4), .val (.int v3), .val (.int (0 : Int32)), .val (.int (1 : Int32)), .val (.int v54), .val (.ref b61), .val (.int v100), .unset, .unset] [(.int (0 : Int32)), (.int v3), (.int q4), (.int rp106)]) (fun t k => XS.iload X106.here hx rfl (hb hby at_112) rfl k) ?_
        refine own_go (mkF m 116 #[.val (.int q1), .val (.int q2), .val (.int q3), .val (.int q4), .val (.int v3), .val (.int (0 : Int32)), .val (.int (1 : Int32)), .val (.int v54), .val (.ref b61), .val (.int v100), .unset, .unset] [(.int v54), (.int (0 : Int32)), (.int v3), (.int q4), (.int rp106)]) (fun t k => XS.iload X106.here hx rfl (hb hby at_114) rfl k) ?_
        refine own_go (mkF m 118 #[.val (.int q1), .val (.int q2), .val (.int q3), .val (.int q4), .val (.int v3), .val (.int (0 : Int32)), .val (.int (1 : Int32)), .val (.int v54), .val (.ref b61), .val (.int v100), .unset, .unset] [(.int (1 : Int32)), (.int v54), (.int (0 : Int32)), (.int v3), (.int q4), (.int rp106)]) (fun t k => XS.iload X106.here hx rfl (hb hby at_116) rfl k) ?_
        have lt118_2 : (0 : Int32).toInt = 0 := rfl
        have lt118_4 : (1 : Int32).toInt = 1 := rfl
        refine own_callS X106 hx hZ (y := (⟨"com/example/chronoquorum/chronoquorum/LiveNodesPositionOfPinLaw", "expected", "(IIZIZ)I"⟩ : MethodName)) hown (hw _ (List.mem_of_getElem? (i := 21) rfl)) (hw _ (List.mem_of_getElem? (i := 22) rfl)) (hw _ (List.mem_of_getElem? (i := 23) rfl)) (hw _ (List.mem_of_getElem? (i := 24) rfl)) (by decide) e106 (rmE l Z a0 hw [] q4 v3 (0 : Int32) v54 (1 : Int32) h91 n0 Z91 (by omega)) 1 (by decide) (by decide) (by decide) (by decide) (g := (mkF m 118 #[.val (.int q1), .val (.int q2), .val (.int q3), .val (.int q4), .val (.int v3), .val (.int (0 : Int32)), .val (.int (1 : Int32)), .val (.int v54), .val (.ref b61), .val (.int v100), .unset, .unset] [(.int (1 : Int32)), (.int v54), (.int (0 : Int32)), (.int v3), (.int q4), (.int rp106)])) rfl (by rw [hml]; rfl) [(.int q4), (.int v3), (.int (0 : Int32)), (.int v54), (.int (1 : Int32))] [(.int rp106)] (lenOf pd0_2 rfl) rfl rfl (by show 2 * 0 + _ ≤ _; exact Nat.le_of_eq rfl) (hb hby at_118) ?_
        intro rv118 T118 h118 L118 X118 e118 hQ118
        obtain ⟨⟨re118, rfl, hr118⟩, NQ118, eq118⟩ := hQ118
        rw [eq118] at e118
        have N118 := Fr.app N106 NQ118
        show own_Ends p e below s room_1.cells room_1.slots (Q0 Z q1 q2 q3 q4 h0 n0) T118 (mkF m 121 #[.val (.int q1), .val (.int q2), .val (.int q3), .val (.int q4), .val (.int v3), .val (.int (0 : Int32)), .val (.int (1 : Int32)), .val (.int v54), .val (.ref b61), .val (.int v100), .unset, .unset] [(.int re118), (.int rp106)])
        have c121 : rp106.toInt = re118.toInt := own_pos1 hr106 hr118 PX91 (by omega)
        refine own_go (mkF m 124 #[.val (.int q1), .val (.int q2), .val (.int q3), .val (.int q4), .val (.int v3), .val (.int (0 : Int32)), .val (.int (1 : Int32)), .val (.int v54), .val (.ref b61), .val (.int v100), .unset, .unset] []) (fun t k => XS.icmpNo X118.here hx rfl (hb hby at_121) rfl (own_icF (cd := .ne) (fun q => q c121)) k) ?_
        refine own_go (mkF m 125 #[.val (.int q1), .val (.int q2), .val (.int q3), .val (.int q4), .val (.int v3), .val (.int (0 : Int32)), .val (.int (1 : Int32)), .val (.int v54), .val (.ref b61), .val (.int v100), .unset, .unset] [(.int (1 : Int32))]) (fun t k => XS.iconst X118.here hx rfl (hb hby at_124) k) ?_
        refine own_go (mkF m 129 #[.val (.int q1), .val (.int q2), .val (.int q3), .val (.int q4), .val (.int v3), .val (.int (0 : Int32)), .val (.int (1 : Int32)), .val (.int v54), .val (.ref b61), .val (.int v100), .unset, .unset] [(.int (1 : Int32))]) (fun t k => XS.goto X118.here hx rfl (pc0 := 125) (pc' := 129) rfl (hb hby at_125) (by decide) (by decide) k) ?_
        refine own_go (mkF m 131 #[.val (.int q1), .val (.int q2), .val (.int q3), .val (.int q4), .val (.int v3), .val (.int (0 : Int32)), .val (.int (1 : Int32)), .val (.int v54), .val (.ref b61), .val (.int v100), .val (.int (1 : Int32)), .unset] []) (fun t k => XS.istore X118.here hx rfl (hb hby at_129) rfl (l' := #[.val (.int q1), .val (.int q2), .val (.int q3), .val (.int q4), .val (.int v3), .val (.int (0 : Int32)), .val (.int (1 : Int32)), .val (.int v54), .val (.ref b61), .val (.int v100), .val (.int (1 : Int32)), .unset]) rfl k) ?_
        refine own_go (mkF m 133 #[.val (.int q1), .val (.int q2), .val (.int q3), .val (.int q4), .val (.int v3), .val (.int (0 : Int32)), .val (.int (1 : Int32)), .val (.int v54), .val (.ref b61), .val (.int v100), .val (.int (1 : Int32)), .unset] [(.ref b61)]) (fun t k => XS.aload X118.here hx rfl (hb hby at_131) rfl rfl k) ?_
        refine own_go (mkF m 135 #[.val (.int q1), .val (.int q2), .val (.int q3), .val (.int q4), .val (.int v3), .val (.int (0 : Int32)), .val (.int (1 : Int32)), .val (.int v54), .val (.ref b61), .val (.int v100), .val (.int (1 : Int32)), .unset] [(.int v100), (.ref b61)]) (fun t k => XS.iload X118.here hx rfl (hb hby at_133) rfl k) ?_
        refine own_callV X118 hx hZ (y := (⟨"com/example/chronoquorum/chronoquorum/LiveNodes", "positionOf", "(I)I"⟩ : MethodName)) hown (hw _ (List.mem_of_getElem? (i := 14) rfl)) (hw _ (List.mem_of_getElem? (i := 15) rfl)) (hw _ (List.mem_of_getElem? (i := 17) rfl)) (hw _ (List.mem_of_getElem? (i := 16) rfl)) (hw _ (List.mem_of_getElem? (i := 2) rfl)) (hw _ (List.mem_of_getElem? (i := 18) rfl)) (by decide) e118 b61 E91 (rm4 l Z a0 hw [] b61 v100 ap91 la91 nP91 P91 h91 n0 Z91 E91 Fp91 Fl91 Ap91 (by omega) ) 0 (by decide) (by decide) (by decide) (by decide) (g := (mkF m 135 #[.val (.int q1), .val (.int q2), .val (.int q3), .val (.int q4), .val (.int v3), .val (.int (0 : Int32)), .val (.int (1 : Int32)), .val (.int v54), .val (.ref b61), .val (.int v100), .val (.int (1 : Int32)), .unset] [(.int v100), (.ref b61)])) rfl (by rw [hml]; rfl) [(.int v100)] [] (lenOf pd0_1 rfl) rfl rfl (by show 2 * 0 + _ ≤ _; exact Nat.le_of_eq rfl) (hb hby at_135) ?_
        intro rv135 T135 h135 L135 X135 e135 hQ135
        obtain ⟨⟨rp135, rfl, hr135⟩, NQ135, eq135⟩ := hQ135
        rw [eq135] at e135
        have rr135 := rng32 rp135
        have N135 := Fr.app N118 NQ135
        show own_Ends p e below s room_1.cells room_1.slots (Q0 Z q1 q2 q3 q4 h0 n0) T135 (mkF m 138 #[.val (.int q1), .val (.int q2), .val (.int q3), .val (.int q4), .val (.int v3), .val (.int (0 : Int32)), .val (.int (1 : Int32)), .val (.int v54), .val (.ref b61), .val (.int v100), .val (.int (1 : Int32)), .unset] [(.int rp135)])
        refine own_go (mkF m 140 #[.val (.int q1), .val (.int q2), .val (.int q3), .val (.int q4), .val (.int v3), .val (.int (0 : Int32)), .val (.int (1 : Int32)), .val (.int v54), .val (.ref b61), .val (.int v100), .val (.int (1 : Int32)), .unset] [(.int v100), (.int rp135)]) (fun t k => XS.iload X135.here hx rfl (hb hby at_138) rfl k) ?_
        refine own_go (mkF m 142 #[.val (.int q1), .val (.int q2), .val (.int q3), .val (.int q4), .val (.int v3), .val (.int (0 : Int32)), .val (.int (1 : Int32)), .val (.int v54), .val (.ref b61), .val (.int v100), .val (.int (1 : Int32)), .unset] [(.int v3), (.int v100), (.int rp135)]) (fun t k => XS.iload X135.here hx rfl (hb hby at_140) rfl k) ?_
        refine own_go (mkF m 144 #[.val (.int q1), .val (.int q2), .val (.int q3), .val (.int q4), .val (.int v3), .val (.int (0 : Int32)), .val (.int (1 : Int32)), .val (.int v54), .val (.ref b61), .val (.int v100), .val (.int (1 : Int32)), .unset] [(.int (0 : Int32)), (.int v3), (.int v100), (.int rp135)]) (fun t k => XS.iload X135.here hx rfl (hb hby at_142) rfl k) ?_
        refine own_go (mkF m 146 #[.val (.int q1), .val (.int q2), .val (.int q3), .val (.int q4), .val (.int v3), .val (.int (0 : Int32)), .val (.int (1 : Int32)), .val (.int v54), .val (.ref b61), .val (.int v100), .val (.int (1 : Int32)), .unset] [(.int v54), (.int (0 : Int32)), (.int v3), (.int v100), (.int rp135)]) (fun t k => XS.iload X135.here hx rfl (hb hby at_144) rfl k) ?_
        refine own_go (mkF m 148 #[.val (.int q1), .val (.int q2), .val (.int q3), .val (.int q4), .val (.int v3), .val (.int (0 : Int32)), .val (.int (1 : Int32)), .val (.int v54), .val (.ref b61), .val (.int v100), .val (.int (1 : Int32)), .unset] [(.int (1 : Int32)), (.int v54), (.int (0 : Int32)), (.int v3), (.int v100), (.int rp135)]) (fun t k => XS.iload X135.here hx rfl (hb hby at_146) rfl k) ?_
        have lt148_2 : (0 : Int32).toInt = 0 := rfl
        have lt148_4 : (1 : Int32).toInt = 1 := rfl
        refine own_callS X135 hx hZ (y := (⟨"com/example/chronoquorum/chronoquorum/LiveNodesPositionOfPinLaw", "expected", "(IIZIZ)I"⟩ : MethodName)) hown (hw _ (List.mem_of_getElem? (i := 21) rfl)) (hw _ (List.mem_of_getElem? (i := 22) rfl)) (hw _ (List.mem_of_getElem? (i := 23) rfl)) (hw _ (List.mem_of_getElem? (i := 24) rfl)) (by decide) e135 (rmE l Z a0 hw [] v100 v3 (0 : Int32) v54 (1 : Int32) h91 n0 Z91 (by omega)) 1 (by decide) (by decide) (by decide) (by decide) (g := (mkF m 148 #[.val (.int q1), .val (.int q2), .val (.int q3), .val (.int q4), .val (.int v3), .val (.int (0 : Int32)), .val (.int (1 : Int32)), .val (.int v54), .val (.ref b61), .val (.int v100), .val (.int (1 : Int32)), .unset] [(.int (1 : Int32)), (.int v54), (.int (0 : Int32)), (.int v3), (.int v100), (.int rp135)])) rfl (by rw [hml]; rfl) [(.int v100), (.int v3), (.int (0 : Int32)), (.int v54), (.int (1 : Int32))] [(.int rp135)] (lenOf pd0_2 rfl) rfl rfl (by show 2 * 0 + _ ≤ _; exact Nat.le_of_eq rfl) (hb hby at_148) ?_
        intro rv148 T148 h148 L148 X148 e148 hQ148
        obtain ⟨⟨re148, rfl, hr148⟩, NQ148, eq148⟩ := hQ148
        rw [eq148] at e148
        have N148 := Fr.app N135 NQ148
        show own_Ends p e below s room_1.cells room_1.slots (Q0 Z q1 q2 q3 q4 h0 n0) T148 (mkF m 151 #[.val (.int q1), .val (.int q2), .val (.int q3), .val (.int q4), .val (.int v3), .val (.int (0 : Int32)), .val (.int (1 : Int32)), .val (.int v54), .val (.ref b61), .val (.int v100), .val (.int (1 : Int32)), .unset] [(.int re148), (.int rp135)])
        have c151 : rp135.toInt = re148.toInt := own_pos1 hr135 hr148 PX91 (by omega)
        refine own_go (mkF m 154 #[.val (.int q1), .val (.int q2), .val (.int q3), .val (.int q4), .val (.int v3), .val (.int (0 : Int32)), .val (.int (1 : Int32)), .val (.int v54), .val (.ref b61), .val (.int v100), .val (.int (1 : Int32)), .unset] []) (fun t k => XS.icmpNo X148.here hx rfl (hb hby at_151) rfl (own_icF (cd := .ne) (fun q => q c151)) k) ?_
        refine own_go (mkF m 155 #[.val (.int q1), .val (.int q2), .val (.int q3), .val (.int q4), .val (.int v3), .val (.int (0 : Int32)), .val (.int (1 : Int32)), .val (.int v54), .val (.ref b61), .val (.int v100), .val (.int (1 : Int32)), .unset] [(.int (1 : Int32))]) (fun t k => XS.iconst X148.here hx rfl (hb hby at_154) k) ?_
        refine own_go (mkF m 159 #[.val (.int q1), .val (.int q2), .val (.int q3), .val (.int q4), .val (.int v3), .val (.int (0 : Int32)), .val (.int (1 : Int32)), .val (.int v54), .val (.ref b61), .val (.int v100), .val (.int (1 : Int32)), .unset] [(.int (1 : Int32))]) (fun t k => XS.goto X148.here hx rfl (pc0 := 155) (pc' := 159) rfl (hb hby at_155) (by decide) (by decide) k) ?_
        refine own_go (mkF m 161 #[.val (.int q1), .val (.int q2), .val (.int q3), .val (.int q4), .val (.int v3), .val (.int (0 : Int32)), .val (.int (1 : Int32)), .val (.int v54), .val (.ref b61), .val (.int v100), .val (.int (1 : Int32)), .val (.int (1 : Int32))] []) (fun t k => XS.istore X148.here hx rfl (hb hby at_159) rfl (l' := #[.val (.int q1), .val (.int q2), .val (.int q3), .val (.int q4), .val (.int v3), .val (.int (0 : Int32)), .val (.int (1 : Int32)), .val (.int v54), .val (.ref b61), .val (.int v100), .val (.int (1 : Int32)), .val (.int (1 : Int32))]) rfl k) ?_
        refine own_go (mkF m 163 #[.val (.int q1), .val (.int q2), .val (.int q3), .val (.int q4), .val (.int v3), .val (.int (0 : Int32)), .val (.int (1 : Int32)), .val (.int v54), .val (.ref b61), .val (.int v100), .val (.int (1 : Int32)), .val (.int (1 : Int32))] [(.int (1 : Int32))]) (fun t k => XS.iload X148.here hx rfl (hb hby at_161) rfl k) ?_
        refine own_go (mkF m 166 #[.val (.int q1), .val (.int q2), .val (.int q3), .val (.int q4), .val (.int v3), .val (.int (0 : Int32)), .val (.int (1 : Int32)), .val (.int v54), .val (.ref b61), .val (.int v100), .val (.int (1 : Int32)), .val (.int (1 : Int32))] []) (fun t k => XS.ifNo X148.here hx rfl (hb hby at_163) rfl (by decide) k) ?_
        refine own_go (mkF m 168 #[.val (.int q1), .val (.int q2), .val (.int q3), .val (.int q4), .val (.int v3), .val (.int (0 : Int32)), .val (.int (1 : Int32)), .val (.int v54), .val (.ref b61), .val (.int v100), .val (.int (1 : Int32)), .val (.int (1 : Int32))] [(.int (1 : Int32))]) (fun t k => XS.iload X148.here hx rfl (hb hby at_166) rfl k) ?_
        refine own_go (mkF m 171 #[.val (.int q1), .val (.int q2), .val (.int q3), .val (.int q4), .val (.int v3), .val (.int (0 : Int32)), .val (.int (1 : Int32)), .val (.int v54), .val (.ref b61), .val (.int v100), .val (.int (1 : Int32)), .val (.int (1 : Int32))] []) (fun t k => XS.ifNo X148.here hx rfl (hb hby at_168) rfl (by decide) k) ?_
        refine own_go (mkF m 172 #[.val (.int q1), .val (.int q2), .val (.int q3), .val (.int q4), .val (.int v3), .val (.int (0 : Int32)), .val (.int (1 : Int32)), .val (.int v54), .val (.ref b61), .val (.int v100), .val (.int (1 : Int32)), .val (.int (1 : Int32))] [(.int (1 : Int32))]) (fun t k => XS.iconst X148.here hx rfl (hb hby at_171) k) ?_
        refine own_go (mkF m 176 #[.val (.int q1), .val (.int q2), .val (.int q3), .val (.int q4), .val (.int v3), .val (.int (0 : Int32)), .val (.int (1 : Int32)), .val (.int v54), .val (.ref b61), .val (.int v100), .val (.int (1 : Int32)), .val (.int (1 : Int32))] [(.int (1 : Int32))]) (fun t k => XS.goto X148.here hx rfl (pc0 := 172) (pc' := 176) rfl (hb hby at_172) (by decide) (by decide) k) ?_
        refine own_retI X148 hx hlk hret (by simp) rfl (hb hby at_176) (by decide) (by decide) ?_
        rw [e148]
        exact ⟨rfl, N148⟩
  · skip
    refine own_go (mkF m 14 #[.val (.int q1), .val (.int q2), .val (.int q3), .val (.int q4), .val (.int v3), .unset, .unset, .unset, .unset, .unset, .unset, .unset] []) (fun t k => XS.ifNo X0.here hx rfl (hb hby at_11) rfl (own_zF (cd := .eq) c11) k) ?_
    refine own_go (mkF m 16 #[.val (.int q1), .val (.int q2), .val (.int q3), .val (.int q4), .val (.int v3), .unset, .unset, .unset, .unset, .unset, .unset, .unset] [(.int v3)]) (fun t k => XS.iload X0.here hx rfl (hb hby at_14) rfl k) ?_
    by_cases c16 : v3.toInt ≤ 0
    · skip
      refine own_go (mkF m 23 #[.val (.int q1), .val (.int q2), .val (.int q3), .val (.int q4), .val (.int v3), .unset, .unset, .unset, .unset, .unset, .unset, .unset] []) (fun t k => XS.ifYes X0.here hx rfl (pc0 := 16) (pc' := 23) rfl (hb hby at_16) rfl (own_zT (cd := .le) c16) (by decide) (by decide) k) ?_
      refine own_go (mkF m 24 #[.val (.int q1), .val (.int q2), .val (.int q3), .val (.int q4), .val (.int v3), .unset, .unset, .unset, .unset, .unset, .unset, .unset] [(.int (0 : Int32))]) (fun t k => XS.iconst X0.here hx rfl (hb hby at_23) k) ?_
      refine own_go (mkF m 26 #[.val (.int q1), .val (.int q2), .val (.int q3), .val (.int q4), .val (.int v3), .val (.int (0 : Int32)), .unset, .unset, .unset, .unset, .unset, .unset] []) (fun t k => XS.istore X0.here hx rfl (hb hby at_24) rfl (l' := #[.val (.int q1), .val (.int q2), .val (.int q3), .val (.int q4), .val (.int v3), .val (.int (0 : Int32)), .unset, .unset, .unset, .unset, .unset, .unset]) rfl k) ?_
      refine own_go (mkF m 27 #[.val (.int q1), .val (.int q2), .val (.int q3), .val (.int q4), .val (.int v3), .val (.int (0 : Int32)), .unset, .unset, .unset, .unset, .unset, .unset] [(.int q1)]) (fun t k => XS.iloadN X0.here hx rfl (hb hby at_26) rfl k) ?_
      refine own_go (mkF m 28 #[.val (.int q1), .val (.int q2), .val (.int q3), .val (.int q4), .val (.int v3), .val (.int (0 : Int32)), .unset, .unset, .unset, .unset, .unset, .unset] [(.int (4 : Int32)), (.int q1)]) (fun t k => XS.iconst X0.here hx rfl (hb hby at_27) k) ?_
      refine own_go (mkF m 29 #[.val (.int q1), .val (.int q2), .val (.int q3), .val (.int q4), .val (.int v3), .val (.int (0 : Int32)), .unset, .unset, .unset, .unset, .unset, .unset] [(.int ((q1.toUInt32 >>> ((4 : Int32) &&& 31).toUInt32).toInt32))]) (fun t k => XS.iushr X0.here hx rfl (hb hby at_28) rfl k) ?_
      generalize hv28 : ((q1.toUInt32 >>> ((4 : Int32) &&& 31).toUInt32).toInt32) = v28
      refine own_go (mkF m 30 #[.val (.int q1), .val (.int q2), .val (.int q3), .val (.int q4), .val (.int v3), .val (.int (0 : Int32)), .unset, .unset, .unset, .unset, .unset, .unset] [(.int (1 : Int32)), (.int v28)]) (fun t k => XS.iconst X0.here hx rfl (hb hby at_29) k) ?_
      refine own_go (mkF m 31 #[.val (.int q1), .val (.int q2), .val (.int q3), .val (.int q4), .val (.int v3), .val (.int (0 : Int32)), .unset, .unset, .unset, .unset, .unset, .unset] [(.int (v28 &&& (1 : Int32)))]) (fun t k => XS.iand X0.here hx rfl (hb hby at_30) rfl k) ?_
      generalize hv30 : (v28 &&& (1 : Int32)) = v30
      have f30 : v30.toInt = v28.toInt % 2 := by rw [← hv30]; exact c_mask v28 (1 : Int32) 1 (by decide) (by decide)
      have r30 := rng32 v30
      by_cases c31 : v30.toInt = 0
      · skip
        refine own_go (mkF m 38 #[.val (.int q1), .val (.int q2), .val (.int q3), .val (.int q4), .val (.int v3), .val (.int (0 : Int32)), .unset, .unset, .unset, .unset, .unset, .unset] []) (fun t k => XS.ifYes X0.here hx rfl (pc0 := 31) (pc' := 38) rfl (hb hby at_31) rfl (own_zT (cd := .eq) c31) (by decide) (by decide) k) ?_
        refine own_go (mkF m 39 #[.val (.int q1), .val (.int q2), .val (.int q3), .val (.int q4), .val (.int v3), .val (.int (0 : Int32)), .unset, .unset, .unset, .unset, .unset, .unset] [(.int (0 : Int32))]) (fun t k => XS.iconst X0.here hx rfl (hb hby at_38) k) ?_
        refine own_go (mkF m 41 #[.val (.int q1), .val (.int q2), .val (.int q3), .val (.int q4), .val (.int v3), .val (.int (0 : Int32)), .val (.int (0 : Int32)), .unset, .unset, .unset, .unset, .unset] []) (fun t k => XS.istore X0.here hx rfl (hb hby at_39) rfl (l' := #[.val (.int q1), .val (.int q2), .val (.int q3), .val (.int q4), .val (.int v3), .val (.int (0 : Int32)), .val (.int (0 : Int32)), .unset, .unset, .unset, .unset, .unset]) rfl k) ?_
        refine own_go (mkF m 43 #[.val (.int q1), .val (.int q2), .val (.int q3), .val (.int q4), .val (.int v3), .val (.int (0 : Int32)), .val (.int (0 : Int32)), .unset, .unset, .unset, .unset, .unset] [(.int v3)]) (fun t k => XS.iload X0.here hx rfl (hb hby at_41) rfl k) ?_
        have c43 : v3.toInt ≤ 0 := by omega
        refine own_go (mkF m 58 #[.val (.int q1), .val (.int q2), .val (.int q3), .val (.int q4), .val (.int v3), .val (.int (0 : Int32)), .val (.int (0 : Int32)), .unset, .unset, .unset, .unset, .unset] []) (fun t k => XS.ifYes X0.here hx rfl (pc0 := 43) (pc' := 58) rfl (hb hby at_43) rfl (own_zT (cd := .le) c43) (by decide) (by decide) k) ?_
        refine own_go (mkF m 59 #[.val (.int q1), .val (.int q2), .val (.int q3), .val (.int q4), .val (.int v3), .val (.int (0 : Int32)), .val (.int (0 : Int32)), .unset, .unset, .unset, .unset, .unset] [(.int (0 : Int32))]) (fun t k => XS.iconst X0.here hx rfl (hb hby at_58) k) ?_
        refine own_go (mkF m 61 #[.val (.int q1), .val (.int q2), .val (.int q3), .val (.int q4), .val (.int v3), .val (.int (0 : Int32)), .val (.int (0 : Int32)), .val (.int (0 : Int32)), .unset, .unset, .unset, .unset] []) (fun t k => XS.istore X0.here hx rfl (hb hby at_59) rfl (l' := #[.val (.int q1), .val (.int q2), .val (.int q3), .val (.int q4), .val (.int v3), .val (.int (0 : Int32)), .val (.int (0 : Int32)), .val (.int (0 : Int32)), .unset, .unset, .unset, .unset]) rfl k) ?_
        obtain ⟨T61, h61, X61, e61, E61, A61, D61, -, st61⟩ := newO X0 hx hZ hown (hw _ (List.mem_of_getElem? (i := 0) rfl)) (hw _ (List.mem_of_getElem? (i := 1) rfl)) (hw _ (List.mem_of_getElem? (i := 2) rfl)) e0 (g := (mkF m 61 #[.val (.int q1), .val (.int q2), .val (.int q3), .val (.int q4), .val (.int v3), .val (.int (0 : Int32)), .val (.int (0 : Int32)), .val (.int (0 : Int32)), .unset, .unset, .unset, .unset] [])) rfl (hb hby at_61) (by decide) (by decide)
        obtain ⟨b61, g61⟩ : ∃ z, z = h0.size := ⟨_, rfl⟩
        rw [← g61] at A61 D61 st61
        have gb61 : n0 ≤ b61 := Nat.le_trans Z0 (Nat.le_of_eq g61.symm)
        have Z0_61 : n0 ≤ h61.size := Nat.le_trans Z0 E61.1
        have F_ids_b61 : Fld Z h61 b61 "com/example/chronoquorum/chronoquorum/LiveNodes" "ids" "[I" (.null) := D61 (Or.inl (hw _ (List.mem_of_getElem? (i := 11) rfl))) (ty := (.array .int)) (by decide)
        have F_positions_b61 : Fld Z h61 b61 "com/example/chronoquorum/chronoquorum/LiveNodes" "positions" "[I" (.null) := D61 (Or.inl (hw _ (List.mem_of_getElem? (i := 13) rfl))) (ty := (.array .int)) (by decide)
        have F_lastId_b61 : Fld Z h61 b61 "com/example/chronoquorum/chronoquorum/LiveNodes" "lastId" "I" (.int (0 : Int32)) := D61 (Or.inl (hw _ (List.mem_of_getElem? (i := 20) rfl))) (ty := .int) (by decide)
        have F_size_b61 : Fld Z h61 b61 "com/example/chronoquorum/chronoquorum/LiveNodes" "size" "I" (.int (0 : Int32)) := D61 (Or.inl (hw _ (List.mem_of_getElem? (i := 37) rfl))) (ty := .int) (by decide)
        refine own_go (T' := T61) (mkF m 64 #[.val (.int q1), .val (.int q2), .val (.int q3), .val (.int q4), .val (.int v3), .val (.int (0 : Int32)), .val (.int (0 : Int32)), .val (.int (0 : Int32)), .unset, .unset, .unset, .unset] [(.ref b61)]) st61 ?_
        refine own_go (mkF m 65 #[.val (.int q1), .val (.int q2), .val (.int q3), .val (.int q4), .val (.int v3), .val (.int (0 : Int32)), .val (.int (0 : Int32)), .val (.int (0 : Int32)), .unset, .unset, .unset, .unset] [(.ref b61), (.ref b61)]) (fun t k => XS.dup X61.here hx rfl (hb hby at_64) rfl rfl k) ?_
        refine own_go (mkF m 67 #[.val (.int q1), .val (.int q2), .val (.int q3), .val (.int q4), .val (.int v3), .val (.int (0 : Int32)), .val (.int (0 : Int32)), .val (.int (0 : Int32)), .unset, .unset, .unset, .unset] [(.int v3), (.ref b61), (.ref b61)]) (fun t k => XS.iload X61.here hx rfl (hb hby at_65) rfl k) ?_
        refine own_callI X61 hx hZ (y := (⟨"com/example/chronoquorum/chronoquorum/LiveNodes", "<init>", "(I)V"⟩ : MethodName)) hown rfl (hw _ (List.mem_of_getElem? (i := 3) rfl)) (hw _ (List.mem_of_getElem? (i := 4) rfl)) (hw _ (List.mem_of_getElem? (i := 2) rfl)) (hw _ (List.mem_of_getElem? (i := 5) rfl)) (by decide) e61 (rm1 l Z a0 hw [] b61 v3 h61 n0 Z0_61 A61 F_ids_b61 F_positions_b61 F_lastId_b61 F_size_b61 gb61 (by omega)) 1 (by decide) (by decide) (by decide) (by decide) (g := (mkF m 67 #[.val (.int q1), .val (.int q2), .val (.int q3), .val (.int q4), .val (.int v3), .val (.int (0 : Int32)), .val (.int (0 : Int32)), .val (.int (0 : Int32)), .unset, .unset, .unset, .unset] [(.int v3), (.ref b61), (.ref b61)])) rfl (by rw [hml]; rfl) b61 [(.int v3)] [(.ref b61)] (lenOf pd0_0 rfl) rfl rfl (by show 2 * 0 + _ ≤ _; exact Nat.le_of_eq rfl) (hb hby at_67) ?_
        intro rv67 T67 h67 L67 X67 e67 hQ67
        obtain ⟨rfl, NQ67, KQ67, ai, ap, sz, la, nI, nP, I, P, EQ, Fi, Fp, Fs, Fl, Ai, Ap, gai, gap, ne1, ne2, ne3, hsz, hla, hnI, hnP, hini⟩ := hQ67
        have Z67 : n0 ≤ h67.size := Nat.le_trans Z0_61 KQ67.1
        have rsz := rng32 sz
        have rla := rng32 la
        have V0 : own_V sz.toInt la.toInt I P := by rw [hsz, hla]; exact own_V_start (by omega) hini
        have D0 : own_D P la.toInt 0 0 := by rw [hla]; exact own_D0 hini.2
        have N67 := Fr.app N0 NQ67
        show own_Ends p e below s room_1.cells room_1.slots (Q0 Z q1 q2 q3 q4 h0 n0) T67 (mkF m 70 #[.val (.int q1), .val (.int q2), .val (.int q3), .val (.int q4), .val (.int v3), .val (.int (0 : Int32)), .val (.int (0 : Int32)), .val (.int (0 : Int32)), .unset, .unset, .unset, .unset] [(.ref b61)])
        have PX0 : own_X P v3.toInt v3.toInt 0 0 0 := own_X0 hini.2
        have r3' : 0 ≤ v3.toInt ∧ v3.toInt ≤ 7 := by omega
        clear f3
        refine own_go (mkF m 72 #[.val (.int q1), .val (.int q2), .val (.int q3), .val (.int q4), .val (.int v3), .val (.int (0 : Int32)), .val (.int (0 : Int32)), .val (.int (0 : Int32)), .val (.ref b61), .unset, .unset, .unset] []) (fun t k => XS.astore X67.here hx rfl (hb hby at_70) rfl rfl (l' := #[.val (.int q1), .val (.int q2), .val (.int q3), .val (.int q4), .val (.int v3), .val (.int (0 : Int32)), .val (.int (0 : Int32)), .val (.int (0 : Int32)), .val (.ref b61), .unset, .unset, .unset]) rfl k) ?_
        refine own_go (mkF m 74 #[.val (.int q1), .val (.int q2), .val (.int q3), .val (.int q4), .val (.int v3), .val (.int (0 : Int32)), .val (.int (0 : Int32)), .val (.int (0 : Int32)), .val (.ref b61), .unset, .unset, .unset] [(.int (0 : Int32))]) (fun t k => XS.iload X67.here hx rfl (hb hby at_72) rfl k) ?_
        refine own_go (mkF m 84 #[.val (.int q1), .val (.int q2), .val (.int q3), .val (.int q4), .val (.int v3), .val (.int (0 : Int32)), .val (.int (0 : Int32)), .val (.int (0 : Int32)), .val (.ref b61), .unset, .unset, .unset] []) (fun t k => XS.ifYes X67.here hx rfl (pc0 := 74) (pc' := 84) rfl (hb hby at_74) rfl (by decide) (by decide) (by decide) k) ?_
        refine own_go (mkF m 86 #[.val (.int q1), .val (.int q2), .val (.int q3), .val (.int q4), .val (.int v3), .val (.int (0 : Int32)), .val (.int (0 : Int32)), .val (.int (0 : Int32)), .val (.ref b61), .unset, .unset, .unset] [(.int (0 : Int32))]) (fun t k => XS.iload X67.here hx rfl (hb hby at_84) rfl k) ?_
        refine own_go (mkF m 95 #[.val (.int q1), .val (.int q2), .val (.int q3), .val (.int q4), .val (.int v3), .val (.int (0 : Int32)), .val (.int (0 : Int32)), .val (.int (0 : Int32)), .val (.ref b61), .unset, .unset, .unset] []) (fun t k => XS.ifYes X67.here hx rfl (pc0 := 86) (pc' := 95) rfl (hb hby at_86) rfl (by decide) (by decide) (by decide) k) ?_
        refine own_go (mkF m 96 #[.val (.int q1), .val (.int q2), .val (.int q3), .val (.int q4), .val (.int v3), .val (.int (0 : Int32)), .val (.int (0 : Int32)), .val (.int (0 : Int32)), .val (.ref b61), .unset, .unset, .unset] [(.int q2)]) (fun t k => XS.iloadN X67.here hx rfl (hb hby at_95) rfl k) ?_
        refine own_go (mkF m 98 #[.val (.int q1), .val (.int q2), .val (.int q3), .val (.int q4), .val (.int v3), .val (.int (0 : Int32)), .val (.int (0 : Int32)), .val (.int (0 : Int32)), .val (.ref b61), .unset, .unset, .unset] [(.int (15 : Int32)), (.int q2)]) (fun t k => XS.bipush X67.here hx rfl (hb hby at_96) k) ?_
        refine own_go (mkF m 99 #[.val (.int q1), .val (.int q2), .val (.int q3), .val (.int q4), .val (.int v3), .val (.int (0 : Int32)), .val (.int (0 : Int32)), .val (.int (0 : Int32)), .val (.ref b61), .unset, .unset, .unset] [(.int (q2 &&& (15 : Int32)))]) (fun t k => XS.iand X67.here hx rfl (hb hby at_98) rfl k) ?_
        generalize hv98 : (q2 &&& (15 : Int32)) = v98
        have f98 : v98.toInt = q2.toInt % 16 := by rw [← hv98]; exact c_mask q2 (15 : Int32) 4 (by decide) (by decide)
        have r98 := rng32 v98
        refine own_go (mkF m 100 #[.val (.int q1), .val (.int q2), .val (.int q3), .val (.int q4), .val (.int v3), .val (.int (0 : Int32)), .val (.int (0 : Int32)), .val (.int (0 : Int32)), .val (.ref b61), .unset, .unset, .unset] [(.int (1 : Int32)), (.int v98)]) (fun t k => XS.iconst X67.here hx rfl (hb hby at_99) k) ?_
        refine own_go (mkF m 101 #[.val (.int q1), .val (.int q2), .val (.int q3), .val (.int q4), .val (.int v3), .val (.int (0 : Int32)), .val (.int (0 : Int32)), .val (.int (0 : Int32)), .val (.ref b61), .unset, .unset, .unset] [(.int (v98 - (1 : Int32)))]) (fun t k => XS.isub X67.here hx rfl (hb hby at_100) rfl k) ?_
        generalize hv100 : (v98 - (1 : Int32)) = v100
        have f100 : (v100.toInt - (v98.toInt - 1)) % 4294967296 = 0 := by rw [← hv100]; exact c_isub v98 (1 : Int32)
        have r100 := rng32 v100
        refine own_go (mkF m 103 #[.val (.int q1), .val (.int q2), .val (.int q3), .val (.int q4), .val (.int v3), .val (.int (0 : Int32)), .val (.int (0 : Int32)), .val (.int (0 : Int32)), .val (.ref b61), .val (.int v100), .unset, .unset] []) (fun t k => XS.istore X67.here hx rfl (hb hby at_101) rfl (l' := #[.val (.int q1), .val (.int q2), .val (.int q3), .val (.int q4), .val (.int v3), .val (.int (0 : Int32)), .val (.int (0 : Int32)), .val (.int (0 : Int32)), .val (.ref b61), .val (.int v100), .unset, .unset]) rfl k) ?_
        refine own_go (mkF m 105 #[.val (.int q1), .val (.int q2), .val (.int q3), .val (.int q4), .val (.int v3), .val (.int (0 : Int32)), .val (.int (0 : Int32)), .val (.int (0 : Int32)), .val (.ref b61), .val (.int v100), .unset, .unset] [(.ref b61)]) (fun t k => XS.aload X67.here hx rfl (hb hby at_103) rfl rfl k) ?_
        refine own_go (mkF m 106 #[.val (.int q1), .val (.int q2), .val (.int q3), .val (.int q4), .val (.int v3), .val (.int (0 : Int32)), .val (.int (0 : Int32)), .val (.int (0 : Int32)), .val (.ref b61), .val (.int v100), .unset, .unset] [(.int q4), (.ref b61)]) (fun t k => XS.iloadN X67.here hx rfl (hb hby at_105) rfl k) ?_
        refine own_callV X67 hx hZ (y := (⟨"com/example/chronoquorum/chronoquorum/LiveNodes", "positionOf", "(I)I"⟩ : MethodName)) hown (hw _ (List.mem_of_getElem? (i := 14) rfl)) (hw _ (List.mem_of_getElem? (i := 15) rfl)) (hw _ (List.mem_of_getElem? (i := 17) rfl)) (hw _ (List.mem_of_getElem? (i := 16) rfl)) (hw _ (List.mem_of_getElem? (i := 2) rfl)) (hw _ (List.mem_of_getElem? (i := 18) rfl)) (by decide) e67 b61 EQ (rm4 l Z a0 hw [] b61 q4 ap la nP P h67 n0 Z67 EQ Fp Fl Ap (by omega) ) 0 (by decide) (by decide) (by decide) (by decide) (g := (mkF m 106 #[.val (.int q1), .val (.int q2), .val (.int q3), .val (.int q4), .val (.int v3), .val (.int (0 : Int32)), .val (.int (0 : Int32)), .val (.int (0 : Int32)), .val (.ref b61), .val (.int v100), .unset, .unset] [(.int q4), (.ref b61)])) rfl (by rw [hml]; rfl) [(.int q4)] [] (lenOf pd0_1 rfl) rfl rfl (by show 2 * 0 + _ ≤ _; exact Nat.le_of_eq rfl) (hb hby at_106) ?_
        intro rv106 T106 h106 L106 X106 e106 hQ106
        obtain ⟨⟨rp106, rfl, hr106⟩, NQ106, eq106⟩ := hQ106
        rw [eq106] at e106
        have rr106 := rng32 rp106
        have N106 := Fr.app N67 NQ106
        show own_Ends p e below s room_1.cells room_1.slots (Q0 Z q1 q2 q3 q4 h0 n0) T106 (mkF m 109 #[.val (.int q1), .val (.int q2), .val (.int q3), .val (.int q4), .val (.int v3), .val (.int (0 : Int32)), .val (.int (0 : Int32)), .val (.int (0 : Int32)), .val (.ref b61), .val (.int v100), .unset, .unset] [(.int rp106)])
        refine own_go (mkF m 110 #[.val (.int q1), .val (.int q2), .val (.int q3), .val (.int q4), .val (.int v3), .val (.int (0 : Int32)), .val (.int (0 : Int32)), .val (.int (0 : Int32)), .val (.ref b61), .val (.int v100), .unset, .unset] [(.int q4), (.int rp106)]) (fun t k => XS.iloadN X106.here hx rfl (hb hby at_109) rfl k) ?_
        refine own_go (mkF m 112 #[.val (.int q1), .val (.int q2), .val (.int q3), .val (.int q4), .val (.int v3), .val (.int (0 : Int32)), .val (.int (0 : Int32)), .val (.int (0 : Int32)), .val (.ref b61), .val (.int v100), .unset, .unset] [(.int v3), (.int q4), (.int rp106)]) (fun t k => XS.iload X106.here hx rfl (hb hby at_110) rfl k) ?_
        refine own_go (mkF m 114 #[.val (.int q1), .val (.int q2), .val (.int q3), .val (.int q4), .val (.int v3), .val (.int (0 : Int32)), .val (.int (0 : Int32)), .val (.int (0 : Int32)), .val (.ref b61), .val (.int v100), .unset, .unset] [(.int (0 : Int32)), (.int v3), (.int q4), (.int rp106)]) (fun t k => XS.iload X106.here hx rfl (hb hby at_112) rfl k) ?_
        refine own_go (mkF m 116 #[.val (.int q1), .val (.int q2), .val (.int q3), .val (.int q4), .val (.int v3), .val (.int (0 : Int32)), .val (.int (0 : Int32)), .val (.int (0 : Int32)), .val (.ref b61), .val (.int v100), .unset, .unset] [(.int (0 : Int32)), (.int (0 : Int32)), (.int v3), (.int q4), (.int rp106)]) (fun t k => XS.iload X106.here hx rfl (hb hby at_114) rfl k) ?_
        refine own_go (mkF m 118 #[.val (.int q1), .val (.int q2), .val (.int q3), .val (.int q4), .val (.int v3), .val (.int (0 : Int32)), .val (.int (0 : Int32)), .val (.int (0 : Int32)), .val (.ref b61), .val (.int v100), .unset, .unset] [(.int (0 : Int32)), (.int (0 : Int32)), (.int (0 : Int32)), (.int v3), (.int q4), (.int rp106)]) (fun t k => XS.iload X106.here hx rfl (hb hby at_116) rfl k) ?_
        have lt118_2 : (0 : Int32).toInt = 0 := rfl
        have lt118_3 : (0 : Int32).toInt = 0 := rfl
        have lt118_4 : (0 : Int32).toInt = 0 := rfl
        refine own_callS X106 hx hZ (y := (⟨"com/example/chronoquorum/chronoquorum/LiveNodesPositionOfPinLaw", "expected", "(IIZIZ)I"⟩ : MethodName)) hown (hw _ (List.mem_of_getElem? (i := 21) rfl)) (hw _ (List.mem_of_getElem? (i := 22) rfl)) (hw _ (List.mem_of_getElem? (i := 23) rfl)) (hw _ (List.mem_of_getElem? (i := 24) rfl)) (by decide) e106 (rmE l Z a0 hw [] q4 v3 (0 : Int32) (0 : Int32) (0 : Int32) h67 n0 Z67 (by omega)) 1 (by decide) (by decide) (by decide) (by decide) (g := (mkF m 118 #[.val (.int q1), .val (.int q2), .val (.int q3), .val (.int q4), .val (.int v3), .val (.int (0 : Int32)), .val (.int (0 : Int32)), .val (.int (0 : Int32)), .val (.ref b61), .val (.int v100), .unset, .unset] [(.int (0 : Int32)), (.int (0 : Int32)), (.int (0 : Int32)), (.int v3), (.int q4), (.int rp106)])) rfl (by rw [hml]; rfl) [(.int q4), (.int v3), (.int (0 : Int32)), (.int (0 : Int32)), (.int (0 : Int32))] [(.int rp106)] (lenOf pd0_2 rfl) rfl rfl (by show 2 * 0 + _ ≤ _; exact Nat.le_of_eq rfl) (hb hby at_118) ?_
        intro rv118 T118 h118 L118 X118 e118 hQ118
        obtain ⟨⟨re118, rfl, hr118⟩, NQ118, eq118⟩ := hQ118
        rw [eq118] at e118
        have N118 := Fr.app N106 NQ118
        show own_Ends p e below s room_1.cells room_1.slots (Q0 Z q1 q2 q3 q4 h0 n0) T118 (mkF m 121 #[.val (.int q1), .val (.int q2), .val (.int q3), .val (.int q4), .val (.int v3), .val (.int (0 : Int32)), .val (.int (0 : Int32)), .val (.int (0 : Int32)), .val (.ref b61), .val (.int v100), .unset, .unset] [(.int re118), (.int rp106)])
        have c121 : rp106.toInt = re118.toInt := own_pos0 hr106 hr118 PX0 (by omega)
        refine own_go (mkF m 124 #[.val (.int q1), .val (.int q2), .val (.int q3), .val (.int q4), .val (.int v3), .val (.int (0 : Int32)), .val (.int (0 : Int32)), .val (.int (0 : Int32)), .val (.ref b61), .val (.int v100), .unset, .unset] []) (fun t k => XS.icmpNo X118.here hx rfl (hb hby at_121) rfl (own_icF (cd := .ne) (fun q => q c121)) k) ?_
        refine own_go (mkF m 125 #[.val (.int q1), .val (.int q2), .val (.int q3), .val (.int q4), .val (.int v3), .val (.int (0 : Int32)), .val (.int (0 : Int32)), .val (.int (0 : Int32)), .val (.ref b61), .val (.int v100), .unset, .unset] [(.int (1 : Int32))]) (fun t k => XS.iconst X118.here hx rfl (hb hby at_124) k) ?_
        refine own_go (mkF m 129 #[.val (.int q1), .val (.int q2), .val (.int q3), .val (.int q4), .val (.int v3), .val (.int (0 : Int32)), .val (.int (0 : Int32)), .val (.int (0 : Int32)), .val (.ref b61), .val (.int v100), .unset, .unset] [(.int (1 : Int32))]) (fun t k => XS.goto X118.here hx rfl (pc0 := 125) (pc' := 129) rfl (hb hby at_125) (by decide) (by decide) k) ?_
        refine own_go (mkF m 131 #[.val (.int q1), .val (.int q2), .val (.int q3), .val (.int q4), .val (.int v3), .val (.int (0 : Int32)), .val (.int (0 : Int32)), .val (.int (0 : Int32)), .val (.ref b61), .val (.int v100), .val (.int (1 : Int32)), .unset] []) (fun t k => XS.istore X118.here hx rfl (hb hby at_129) rfl (l' := #[.val (.int q1), .val (.int q2), .val (.int q3), .val (.int q4), .val (.int v3), .val (.int (0 : Int32)), .val (.int (0 : Int32)), .val (.int (0 : Int32)), .val (.ref b61), .val (.int v100), .val (.int (1 : Int32)), .unset]) rfl k) ?_
        refine own_go (mkF m 133 #[.val (.int q1), .val (.int q2), .val (.int q3), .val (.int q4), .val (.int v3), .val (.int (0 : Int32)), .val (.int (0 : Int32)), .val (.int (0 : Int32)), .val (.ref b61), .val (.int v100), .val (.int (1 : Int32)), .unset] [(.ref b61)]) (fun t k => XS.aload X118.here hx rfl (hb hby at_131) rfl rfl k) ?_
        refine own_go (mkF m 135 #[.val (.int q1), .val (.int q2), .val (.int q3), .val (.int q4), .val (.int v3), .val (.int (0 : Int32)), .val (.int (0 : Int32)), .val (.int (0 : Int32)), .val (.ref b61), .val (.int v100), .val (.int (1 : Int32)), .unset] [(.int v100), (.ref b61)]) (fun t k => XS.iload X118.here hx rfl (hb hby at_133) rfl k) ?_
        refine own_callV X118 hx hZ (y := (⟨"com/example/chronoquorum/chronoquorum/LiveNodes", "positionOf", "(I)I"⟩ : MethodName)) hown (hw _ (List.mem_of_getElem? (i := 14) rfl)) (hw _ (List.mem_of_getElem? (i := 15) rfl)) (hw _ (List.mem_of_getElem? (i := 17) rfl)) (hw _ (List.mem_of_getElem? (i := 16) rfl)) (hw _ (List.mem_of_getElem? (i := 2) rfl)) (hw _ (List.mem_of_getElem? (i := 18) rfl)) (by decide) e118 b61 EQ (rm4 l Z a0 hw [] b61 v100 ap la nP P h67 n0 Z67 EQ Fp Fl Ap (by omega) ) 0 (by decide) (by decide) (by decide) (by decide) (g := (mkF m 135 #[.val (.int q1), .val (.int q2), .val (.int q3), .val (.int q4), .val (.int v3), .val (.int (0 : Int32)), .val (.int (0 : Int32)), .val (.int (0 : Int32)), .val (.ref b61), .val (.int v100), .val (.int (1 : Int32)), .unset] [(.int v100), (.ref b61)])) rfl (by rw [hml]; rfl) [(.int v100)] [] (lenOf pd0_1 rfl) rfl rfl (by show 2 * 0 + _ ≤ _; exact Nat.le_of_eq rfl) (hb hby at_135) ?_
        intro rv135 T135 h135 L135 X135 e135 hQ135
        obtain ⟨⟨rp135, rfl, hr135⟩, NQ135, eq135⟩ := hQ135
        rw [eq135] at e135
        have rr135 := rng32 rp135
        have N135 := Fr.app N118 NQ135
        show own_Ends p e below s room_1.cells room_1.slots (Q0 Z q1 q2 q3 q4 h0 n0) T135 (mkF m 138 #[.val (.int q1), .val (.int q2), .val (.int q3), .val (.int q4), .val (.int v3), .val (.int (0 : Int32)), .val (.int (0 : Int32)), .val (.int (0 : Int32)), .val (.ref b61), .val (.int v100), .val (.int (1 : Int32)), .unset] [(.int rp135)])
        refine own_go (mkF m 140 #[.val (.int q1), .val (.int q2), .val (.int q3), .val (.int q4), .val (.int v3), .val (.int (0 : Int32)), .val (.int (0 : Int32)), .val (.int (0 : Int32)), .val (.ref b61), .val (.int v100), .val (.int (1 : Int32)), .unset] [(.int v100), (.int rp135)]) (fun t k => XS.iload X135.here hx rfl (hb hby at_138) rfl k) ?_
        refine own_go (mkF m 142 #[.val (.int q1), .val (.int q2), .val (.int q3), .val (.int q4), .val (.int v3), .val (.int (0 : Int32)), .val (.int (0 : Int32)), .val (.int (0 : Int32)), .val (.ref b61), .val (.int v100), .val (.int (1 : Int32)), .unset] [(.int v3), (.int v100), (.int rp135)]) (fun t k => XS.iload X135.here hx rfl (hb hby at_140) rfl k) ?_
        refine own_go (mkF m 144 #[.val (.int q1), .val (.int q2), .val (.int q3), .val (.int q4), .val (.int v3), .val (.int (0 : Int32)), .val (.int (0 : Int32)), .val (.int (0 : Int32)), .val (.ref b61), .val (.int v100), .val (.int (1 : Int32)), .unset] [(.int (0 : Int32)), (.int v3), (.int v100), (.int rp135)]) (fun t k => XS.iload X135.here hx rfl (hb hby at_142) rfl k) ?_
        refine own_go (mkF m 146 #[.val (.int q1), .val (.int q2), .val (.int q3), .val (.int q4), .val (.int v3), .val (.int (0 : Int32)), .val (.int (0 : Int32)), .val (.int (0 : Int32)), .val (.ref b61), .val (.int v100), .val (.int (1 : Int32)), .unset] [(.int (0 : Int32)), (.int (0 : Int32)), (.int v3), (.int v100), (.int rp135)]) (fun t k => XS.iload X135.here hx rfl (hb hby at_144) rfl k) ?_
        refine own_go (mkF m 148 #[.val (.int q1), .val (.int q2), .val (.int q3), .val (.int q4), .val (.int v3), .val (.int (0 : Int32)), .val (.int (0 : Int32)), .val (.int (0 : Int32)), .val (.ref b61), .val (.int v100), .val (.int (1 : Int32)), .unset] [(.int (0 : Int32)), (.int (0 : Int32)), (.int (0 : Int32)), (.int v3), (.int v100), (.int rp135)]) (fun t k => XS.iload X135.here hx rfl (hb hby at_146) rfl k) ?_
        have lt148_2 : (0 : Int32).toInt = 0 := rfl
        have lt148_3 : (0 : Int32).toInt = 0 := rfl
        have lt148_4 : (0 : Int32).toInt = 0 := rfl
        refine own_callS X135 hx hZ (y := (⟨"com/example/chronoquorum/chronoquorum/LiveNodesPositionOfPinLaw", "expected", "(IIZIZ)I"⟩ : MethodName)) hown (hw _ (List.mem_of_getElem? (i := 21) rfl)) (hw _ (List.mem_of_getElem? (i := 22) rfl)) (hw _ (List.mem_of_getElem? (i := 23) rfl)) (hw _ (List.mem_of_getElem? (i := 24) rfl)) (by decide) e135 (rmE l Z a0 hw [] v100 v3 (0 : Int32) (0 : Int32) (0 : Int32) h67 n0 Z67 (by omega)) 1 (by decide) (by decide) (by decide) (by decide) (g := (mkF m 148 #[.val (.int q1), .val (.int q2), .val (.int q3), .val (.int q4), .val (.int v3), .val (.int (0 : Int32)), .val (.int (0 : Int32)), .val (.int (0 : Int32)), .val (.ref b61), .val (.int v100), .val (.int (1 : Int32)), .unset] [(.int (0 : Int32)), (.int (0 : Int32)), (.int (0 : Int32)), (.int v3), (.int v100), (.int rp135)])) rfl (by rw [hml]; rfl) [(.int v100), (.int v3), (.int (0 : Int32)), (.int (0 : Int32)), (.int (0 : Int32))] [(.int rp135)] (lenOf pd0_2 rfl) rfl rfl (by show 2 * 0 + _ ≤ _; exact Nat.le_of_eq rfl) (hb hby at_148) ?_
        intro rv148 T148 h148 L148 X148 e148 hQ148
        obtain ⟨⟨re148, rfl, hr148⟩, NQ148, eq148⟩ := hQ148
        rw [eq148] at e148
        have N148 := Fr.app N135 NQ148
        show own_Ends p e below s room_1.cells room_1.slots (Q0 Z q1 q2 q3 q4 h0 n0) T148 (mkF m 151 #[.val (.int q1), .val (.int q2), .val (.int q3), .val (.int q4), .val (.int v3), .val (.int (0 : Int32)), .val (.int (0 : Int32)), .val (.int (0 : Int32)), .val (.ref b61), .val (.int v100), .val (.int (1 : Int32)), .unset] [(.int re148), (.int rp135)])
        have c151 : rp135.toInt = re148.toInt := own_pos0 hr135 hr148 PX0 (by omega)
        refine own_go (mkF m 154 #[.val (.int q1), .val (.int q2), .val (.int q3), .val (.int q4), .val (.int v3), .val (.int (0 : Int32)), .val (.int (0 : Int32)), .val (.int (0 : Int32)), .val (.ref b61), .val (.int v100), .val (.int (1 : Int32)), .unset] []) (fun t k => XS.icmpNo X148.here hx rfl (hb hby at_151) rfl (own_icF (cd := .ne) (fun q => q c151)) k) ?_
        refine own_go (mkF m 155 #[.val (.int q1), .val (.int q2), .val (.int q3), .val (.int q4), .val (.int v3), .val (.int (0 : Int32)), .val (.int (0 : Int32)), .val (.int (0 : Int32)), .val (.ref b61), .val (.int v100), .val (.int (1 : Int32)), .unset] [(.int (1 : Int32))]) (fun t k => XS.iconst X148.here hx rfl (hb hby at_154) k) ?_
        refine own_go (mkF m 159 #[.val (.int q1), .val (.int q2), .val (.int q3), .val (.int q4), .val (.int v3), .val (.int (0 : Int32)), .val (.int (0 : Int32)), .val (.int (0 : Int32)), .val (.ref b61), .val (.int v100), .val (.int (1 : Int32)), .unset] [(.int (1 : Int32))]) (fun t k => XS.goto X148.here hx rfl (pc0 := 155) (pc' := 159) rfl (hb hby at_155) (by decide) (by decide) k) ?_
        refine own_go (mkF m 161 #[.val (.int q1), .val (.int q2), .val (.int q3), .val (.int q4), .val (.int v3), .val (.int (0 : Int32)), .val (.int (0 : Int32)), .val (.int (0 : Int32)), .val (.ref b61), .val (.int v100), .val (.int (1 : Int32)), .val (.int (1 : Int32))] []) (fun t k => XS.istore X148.here hx rfl (hb hby at_159) rfl (l' := #[.val (.int q1), .val (.int q2), .val (.int q3), .val (.int q4), .val (.int v3), .val (.int (0 : Int32)), .val (.int (0 : Int32)), .val (.int (0 : Int32)), .val (.ref b61), .val (.int v100), .val (.int (1 : Int32)), .val (.int (1 : Int32))]) rfl k) ?_
        refine own_go (mkF m 163 #[.val (.int q1), .val (.int q2), .val (.int q3), .val (.int q4), .val (.int v3), .val (.int (0 : Int32)), .val (.int (0 : Int32)), .val (.int (0 : Int32)), .val (.ref b61), .val (.int v100), .val (.int (1 : Int32)), .val (.int (1 : Int32))] [(.int (1 : Int32))]) (fun t k => XS.iload X148.here hx rfl (hb hby at_161) rfl k) ?_
        refine own_go (mkF m 166 #[.val (.int q1), .val (.int q2), .val (.int q3), .val (.int q4), .val (.int v3), .val (.int (0 : Int32)), .val (.int (0 : Int32)), .val (.int (0 : Int32)), .val (.ref b61), .val (.int v100), .val (.int (1 : Int32)), .val (.int (1 : Int32))] []) (fun t k => XS.ifNo X148.here hx rfl (hb hby at_163) rfl (by decide) k) ?_
        refine own_go (mkF m 168 #[.val (.int q1), .val (.int q2), .val (.int q3), .val (.int q4), .val (.int v3), .val (.int (0 : Int32)), .val (.int (0 : Int32)), .val (.int (0 : Int32)), .val (.ref b61), .val (.int v100), .val (.int (1 : Int32)), .val (.int (1 : Int32))] [(.int (1 : Int32))]) (fun t k => XS.iload X148.here hx rfl (hb hby at_166) rfl k) ?_
        refine own_go (mkF m 171 #[.val (.int q1), .val (.int q2), .val (.int q3), .val (.int q4), .val (.int v3), .val (.int (0 : Int32)), .val (.int (0 : Int32)), .val (.int (0 : Int32)), .val (.ref b61), .val (.int v100), .val (.int (1 : Int32)), .val (.int (1 : Int32))] []) (fun t k => XS.ifNo X148.here hx rfl (hb hby at_168) rfl (by decide) k) ?_
        refine own_go (mkF m 172 #[.val (.int q1), .val (.int q2), .val (.int q3), .val (.int q4), .val (.int v3), .val (.int (0 : Int32)), .val (.int (0 : Int32)), .val (.int (0 : Int32)), .val (.ref b61), .val (.int v100), .val (.int (1 : Int32)), .val (.int (1 : Int32))] [(.int (1 : Int32))]) (fun t k => XS.iconst X148.here hx rfl (hb hby at_171) k) ?_
        refine own_go (mkF m 176 #[.val (.int q1), .val (.int q2), .val (.int q3), .val (.int q4), .val (.int v3), .val (.int (0 : Int32)), .val (.int (0 : Int32)), .val (.int (0 : Int32)), .val (.ref b61), .val (.int v100), .val (.int (1 : Int32)), .val (.int (1 : Int32))] [(.int (1 : Int32))]) (fun t k => XS.goto X148.here hx rfl (pc0 := 172) (pc' := 176) rfl (hb hby at_172) (by decide) (by decide) k) ?_
        refine own_retI X148 hx hlk hret (by simp) rfl (hb hby at_176) (by decide) (by decide) ?_
        rw [e148]
        exact ⟨rfl, N148⟩
      · skip
        refine own_go (mkF m 34 #[.val (.int q1), .val (.int q2), .val (.int q3), .val (.int q4), .val (.int v3), .val (.int (0 : Int32)), .unset, .unset, .unset, .unset, .unset, .unset] []) (fun t k => XS.ifNo X0.here hx rfl (hb hby at_31) rfl (own_zF (cd := .eq) c31) k) ?_
        refine own_go (mkF m 35 #[.val (.int q1), .val (.int q2), .val (.int q3), .val (.int q4), .val (.int v3), .val (.int (0 : Int32)), .unset, .unset, .unset, .unset, .unset, .unset] [(.int (1 : Int32))]) (fun t k => XS.iconst X0.here hx rfl (hb hby at_34) k) ?_
        refine own_go (mkF m 39 #[.val (.int q1), .val (.int q2), .val (.int q3), .val (.int q4), .val (.int v3), .val (.int (0 : Int32)), .unset, .unset, .unset, .unset, .unset, .unset] [(.int (1 : Int32))]) (fun t k => XS.goto X0.here hx rfl (pc0 := 35) (pc' := 39) rfl (hb hby at_35) (by decide) (by decide) k) ?_
        refine own_go (mkF m 41 #[.val (.int q1), .val (.int q2), .val (.int q3), .val (.int q4), .val (.int v3), .val (.int (0 : Int32)), .val (.int (1 : Int32)), .unset, .unset, .unset, .unset, .unset] []) (fun t k => XS.istore X0.here hx rfl (hb hby at_39) rfl (l' := #[.val (.int q1), .val (.int q2), .val (.int q3), .val (.int q4), .val (.int v3), .val (.int (0 : Int32)), .val (.int (1 : Int32)), .unset, .unset, .unset, .unset, .unset]) rfl k) ?_
        refine own_go (mkF m 43 #[.val (.int q1), .val (.int q2), .val (.int q3), .val (.int q4), .val (.int v3), .val (.int (0 : Int32)), .val (.int (1 : Int32)), .unset, .unset, .unset, .unset, .unset] [(.int v3)]) (fun t k => XS.iload X0.here hx rfl (hb hby at_41) rfl k) ?_
        have c43 : v3.toInt ≤ 0 := by omega
        refine own_go (mkF m 58 #[.val (.int q1), .val (.int q2), .val (.int q3), .val (.int q4), .val (.int v3), .val (.int (0 : Int32)), .val (.int (1 : Int32)), .unset, .unset, .unset, .unset, .unset] []) (fun t k => XS.ifYes X0.here hx rfl (pc0 := 43) (pc' := 58) rfl (hb hby at_43) rfl (own_zT (cd := .le) c43) (by decide) (by decide) k) ?_
        refine own_go (mkF m 59 #[.val (.int q1), .val (.int q2), .val (.int q3), .val (.int q4), .val (.int v3), .val (.int (0 : Int32)), .val (.int (1 : Int32)), .unset, .unset, .unset, .unset, .unset] [(.int (0 : Int32))]) (fun t k => XS.iconst X0.here hx rfl (hb hby at_58) k) ?_
        refine own_go (mkF m 61 #[.val (.int q1), .val (.int q2), .val (.int q3), .val (.int q4), .val (.int v3), .val (.int (0 : Int32)), .val (.int (1 : Int32)), .val (.int (0 : Int32)), .unset, .unset, .unset, .unset] []) (fun t k => XS.istore X0.here hx rfl (hb hby at_59) rfl (l' := #[.val (.int q1), .val (.int q2), .val (.int q3), .val (.int q4), .val (.int v3), .val (.int (0 : Int32)), .val (.int (1 : Int32)), .val (.int (0 : Int32)), .unset, .unset, .unset, .unset]) rfl k) ?_
        obtain ⟨T61, h61, X61, e61, E61, A61, D61, -, st61⟩ := newO X0 hx hZ hown (hw _ (List.mem_of_getElem? (i := 0) rfl)) (hw _ (List.mem_of_getElem? (i := 1) rfl)) (hw _ (List.mem_of_getElem? (i := 2) rfl)) e0 (g := (mkF m 61 #[.val (.int q1), .val (.int q2), .val (.int q3), .val (.int q4), .val (.int v3), .val (.int (0 : Int32)), .val (.int (1 : Int32)), .val (.int (0 : Int32)), .unset, .unset, .unset, .unset] [])) rfl (hb hby at_61) (by decide) (by decide)
        obtain ⟨b61, g61⟩ : ∃ z, z = h0.size := ⟨_, rfl⟩
        rw [← g61] at A61 D61 st61
        have gb61 : n0 ≤ b61 := Nat.le_trans Z0 (Nat.le_of_eq g61.symm)
        have Z0_61 : n0 ≤ h61.size := Nat.le_trans Z0 E61.1
        have F_ids_b61 : Fld Z h61 b61 "com/example/chronoquorum/chronoquorum/LiveNodes" "ids" "[I" (.null) := D61 (Or.inl (hw _ (List.mem_of_getElem? (i := 11) rfl))) (ty := (.array .int)) (by decide)
        have F_positions_b61 : Fld Z h61 b61 "com/example/chronoquorum/chronoquorum/LiveNodes" "positions" "[I" (.null) := D61 (Or.inl (hw _ (List.mem_of_getElem? (i := 13) rfl))) (ty := (.array .int)) (by decide)
        have F_lastId_b61 : Fld Z h61 b61 "com/example/chronoquorum/chronoquorum/LiveNodes" "lastId" "I" (.int (0 : Int32)) := D61 (Or.inl (hw _ (List.mem_of_getElem? (i := 20) rfl))) (ty := .int) (by decide)
        have F_size_b61 : Fld Z h61 b61 "com/example/chronoquorum/chronoquorum/LiveNodes" "size" "I" (.int (0 : Int32)) := D61 (Or.inl (hw _ (List.mem_of_getElem? (i := 37) rfl))) (ty := .int) (by decide)
        refine own_go (T' := T61) (mkF m 64 #[.val (.int q1), .val (.int q2), .val (.int q3), .val (.int q4), .val (.int v3), .val (.int (0 : Int32)), .val (.int (1 : Int32)), .val (.int (0 : Int32)), .unset, .unset, .unset, .unset] [(.ref b61)]) st61 ?_
        refine own_go (mkF m 65 #[.val (.int q1), .val (.int q2), .val (.int q3), .val (.int q4), .val (.int v3), .val (.int (0 : Int32)), .val (.int (1 : Int32)), .val (.int (0 : Int32)), .unset, .unset, .unset, .unset] [(.ref b61), (.ref b61)]) (fun t k => XS.dup X61.here hx rfl (hb hby at_64) rfl rfl k) ?_
        refine own_go (mkF m 67 #[.val (.int q1), .val (.int q2), .val (.int q3), .val (.int q4), .val (.int v3), .val (.int (0 : Int32)), .val (.int (1 : Int32)), .val (.int (0 : Int32)), .unset, .unset, .unset, .unset] [(.int v3), (.ref b61), (.ref b61)]) (fun t k => XS.iload X61.here hx rfl (hb hby at_65) rfl k) ?_
        refine own_callI X61 hx hZ (y := (⟨"com/example/chronoquorum/chronoquorum/LiveNodes", "<init>", "(I)V"⟩ : MethodName)) hown rfl (hw _ (List.mem_of_getElem? (i := 3) rfl)) (hw _ (List.mem_of_getElem? (i := 4) rfl)) (hw _ (List.mem_of_getElem? (i := 2) rfl)) (hw _ (List.mem_of_getElem? (i := 5) rfl)) (by decide) e61 (rm1 l Z a0 hw [] b61 v3 h61 n0 Z0_61 A61 F_ids_b61 F_positions_b61 F_lastId_b61 F_size_b61 gb61 (by omega)) 1 (by decide) (by decide) (by decide) (by decide) (g := (mkF m 67 #[.val (.int q1), .val (.int q2), .val (.int q3), .val (.int q4), .val (.int v3), .val (.int (0 : Int32)), .val (.int (1 : Int32)), .val (.int (0 : Int32)), .unset, .unset, .unset, .unset] [(.int v3), (.ref b61), (.ref b61)])) rfl (by rw [hml]; rfl) b61 [(.int v3)] [(.ref b61)] (lenOf pd0_0 rfl) rfl rfl (by show 2 * 0 + _ ≤ _; exact Nat.le_of_eq rfl) (hb hby at_67) ?_
        intro rv67 T67 h67 L67 X67 e67 hQ67
        obtain ⟨rfl, NQ67, KQ67, ai, ap, sz, la, nI, nP, I, P, EQ, Fi, Fp, Fs, Fl, Ai, Ap, gai, gap, ne1, ne2, ne3, hsz, hla, hnI, hnP, hini⟩ := hQ67
        have Z67 : n0 ≤ h67.size := Nat.le_trans Z0_61 KQ67.1
        have rsz := rng32 sz
        have rla := rng32 la
        have V0 : own_V sz.toInt la.toInt I P := by rw [hsz, hla]; exact own_V_start (by omega) hini
        have D0 : own_D P la.toInt 0 0 := by rw [hla]; exact own_D0 hini.2
        have N67 := Fr.app N0 NQ67
        show own_Ends p e below s room_1.cells room_1.slots (Q0 Z q1 q2 q3 q4 h0 n0) T67 (mkF m 70 #[.val (.int q1), .val (.int q2), .val (.int q3), .val (.int q4), .val (.int v3), .val (.int (0 : Int32)), .val (.int (1 : Int32)), .val (.int (0 : Int32)), .unset, .unset, .unset, .unset] [(.ref b61)])
        have PX0 : own_X P v3.toInt v3.toInt 0 0 0 := own_X0 hini.2
        have r3' : 0 ≤ v3.toInt ∧ v3.toInt ≤ 7 := by omega
        clear f3
        refine own_go (mkF m 72 #[.val (.int q1), .val (.int q2), .val (.int q3), .val (.int q4), .val (.int v3), .val (.int (0 : Int32)), .val (.int (1 : Int32)), .val (.int (0 : Int32)), .val (.ref b61), .unset, .unset, .unset] []) (fun t k => XS.astore X67.here hx rfl (hb hby at_70) rfl rfl (l' := #[.val (.int q1), .val (.int q2), .val (.int q3), .val (.int q4), .val (.int v3), .val (.int (0 : Int32)), .val (.int (1 : Int32)), .val (.int (0 : Int32)), .val (.ref b61), .unset, .unset, .unset]) rfl k) ?_
        refine own_go (mkF m 74 #[.val (.int q1), .val (.int q2), .val (.int q3), .val (.int q4), .val (.int v3), .val (.int (0 : Int32)), .val (.int (1 : Int32)), .val (.int (0 : Int32)), .val (.ref b61), .unset, .unset, .unset] [(.int (0 : Int32))]) (fun t k => XS.iload X67.here hx rfl (hb hby at_72) rfl k) ?_
        refine own_go (mkF m 84 #[.val (.int q1), .val (.int q2), .val (.int q3), .val (.int q4), .val (.int v3), .val (.int (0 : Int32)), .val (.int (1 : Int32)), .val (.int (0 : Int32)), .val (.ref b61), .unset, .unset, .unset] []) (fun t k => XS.ifYes X67.here hx rfl (pc0 := 74) (pc' := 84) rfl (hb hby at_74) rfl (by decide) (by decide) (by decide) k) ?_
        refine own_go (mkF m 86 #[.val (.int q1), .val (.int q2), .val (.int q3), .val (.int q4), .val (.int v3), .val (.int (0 : Int32)), .val (.int (1 : Int32)), .val (.int (0 : Int32)), .val (.ref b61), .unset, .unset, .unset] [(.int (1 : Int32))]) (fun t k => XS.iload X67.here hx rfl (hb hby at_84) rfl k) ?_
        refine own_go (mkF m 89 #[.val (.int q1), .val (.int q2), .val (.int q3), .val (.int q4), .val (.int v3), .val (.int (0 : Int32)), .val (.int (1 : Int32)), .val (.int (0 : Int32)), .val (.ref b61), .unset, .unset, .unset] []) (fun t k => XS.ifNo X67.here hx rfl (hb hby at_86) rfl (by decide) k) ?_
        refine own_go (mkF m 91 #[.val (.int q1), .val (.int q2), .val (.int q3), .val (.int q4), .val (.int v3), .val (.int (0 : Int32)), .val (.int (1 : Int32)), .val (.int (0 : Int32)), .val (.ref b61), .unset, .unset, .unset] [(.ref b61)]) (fun t k => XS.aload X67.here hx rfl (hb hby at_89) rfl rfl k) ?_
        obtain ⟨zI, hzI⟩ := own_z32 nI (by omega)
        obtain ⟨zP, hzP⟩ := own_z32 nP (by omega)
        have vj91 := V0.1
        refine own_callV X67 hx hZ (y := (⟨"com/example/chronoquorum/chronoquorum/LiveNodes", "join", "()I"⟩ : MethodName)) hown (hw _ (List.mem_of_getElem? (i := 54) rfl)) (hw _ (List.mem_of_getElem? (i := 27) rfl)) (hw _ (List.mem_of_getElem? (i := 29) rfl)) (hw _ (List.mem_of_getElem? (i := 28) rfl)) (hw _ (List.mem_of_getElem? (i := 2) rfl)) (hw _ (List.mem_of_getElem? (i := 30) rfl)) (by decide) e67 b61 EQ (rmJ l Z a0 hw [] b61 ai ap sz la nI nP I P zI zP h67 n0 Z67 EQ Fi Fp Fs Fl Ai Ap gb61 gai gap ne1 ne2 ne3 hzI hzP (by omega)) 0 (by decide) (by decide) (by decide) (by decide) (g := (mkF m 91 #[.val (.int q1), .val (.int q2), .val (.int q3), .val (.int q4), .val (.int v3), .val (.int (0 : Int32)), .val (.int (1 : Int32)), .val (.int (0 : Int32)), .val (.ref b61), .unset, .unset, .unset] [(.ref b61)])) rfl (by rw [hml]; rfl) [] [] (lenOf pd0_3 rfl) rfl rfl (by show 2 * 0 + _ ≤ _; exact Nat.le_of_eq rfl) (hb hby at_91) ?_
        intro rv91 T91 h91 L91 X91 e91 hQ91
        obtain ⟨⟨rj91, rfl, -⟩, NQ91, KQ91, ai91, ap91, sz91, la91, nI91, nP91, I91, P91, E91, Fi91, Fp91, Fs91, Fl91, Ai91, Ap91, ga91, gp91, n191, n291, n391, hs91, hl91, hnI91, hnP91, hj91⟩ := hQ91
        have Z91 : n0 ≤ h91.size := Nat.le_trans Z67 KQ91.1
        have rs91 := rng32 sz91
        have rl91 := rng32 la91
        have V91 : own_V sz91.toInt la91.toInt I91 P91 := by rw [hs91, hl91]; exact own_V_join V0 hj91
        have lv91 := own_jn_live (by omega) hj91
        have D91 : own_D P91 la91.toInt 0 0 := own_D_j D0 hl91 (by omega) (by omega) lv91
        have N91 := Fr.app N67 NQ91
        show own_Ends p e below s room_1.cells room_1.slots (Q0 Z q1 q2 q3 q4 h0 n0) T91 (mkF m 94 #[.val (.int q1), .val (.int q2), .val (.int q3), .val (.int q4), .val (.int v3), .val (.int (0 : Int32)), .val (.int (1 : Int32)), .val (.int (0 : Int32)), .val (.ref b61), .unset, .unset, .unset] [(.int rj91)])
        have PX91 : own_X P91 (v3.toInt + 1) v3.toInt 0 0 1 := own_X_join PX0 (by omega) (by omega) (hsz) hla hj91
        refine own_go (mkF m 95 #[.val (.int q1), .val (.int q2), .val (.int q3), .val (.int q4), .val (.int v3), .val (.int (0 : Int32)), .val (.int (1 : Int32)), .val (.int (0 : Int32)), .val (.ref b61), .unset, .unset, .unset] []) (fun t k => XS.pop X91.here hx rfl (hb hby at_94) rfl rfl k) ?_
        refine own_go (mkF m 96 #[.val (.int q1), .val (.int q2), .val (.int q3), .val (.int q4), .val (.int v3), .val (.int (0 : Int32)), .val (.int (1 : Int32)), .val (.int (0 : Int32)), .val (.ref b61), .unset, .unset, .unset] [(.int q2)]) (fun t k => XS.iloadN X91.here hx rfl (hb hby at_95) rfl k) ?_
        refine own_go (mkF m 98 #[.val (.int q1), .val (.int q2), .val (.int q3), .val (.int q4), .val (.int v3), .val (.int (0 : Int32)), .val (.int (1 : Int32)), .val (.int (0 : Int32)), .val (.ref b61), .unset, .unset, .unset] [(.int (15 : Int32)), (.int q2)]) (fun t k => XS.bipush X91.here hx rfl (hb hby at_96) k) ?_
        refine own_go (mkF m 99 #[.val (.int q1), .val (.int q2), .val (.int q3), .val (.int q4), .val (.int v3), .val (.int (0 : Int32)), .val (.int (1 : Int32)), .val (.int (0 : Int32)), .val (.ref b61), .unset, .unset, .unset] [(.int (q2 &&& (15 : Int32)))]) (fun t k => XS.iand X91.here hx rfl (hb hby at_98) rfl k) ?_
        generalize hv98 : (q2 &&& (15 : Int32)) = v98
        have f98 : v98.toInt = q2.toInt % 16 := by rw [← hv98]; exact c_mask q2 (15 : Int32) 4 (by decide) (by decide)
        have r98 := rng32 v98
        refine own_go (mkF m 100 #[.val (.int q1), .val (.int q2), .val (.int q3), .val (.int q4), .val (.int v3), .val (.int (0 : Int32)), .val (.int (1 : Int32)), .val (.int (0 : Int32)), .val (.ref b61), .unset, .unset, .unset] [(.int (1 : Int32)), (.int v98)]) (fun t k => XS.iconst X91.here hx rfl (hb hby at_99) k) ?_
        refine own_go (mkF m 101 #[.val (.int q1), .val (.int q2), .val (.int q3), .val (.int q4), .val (.int v3), .val (.int (0 : Int32)), .val (.int (1 : Int32)), .val (.int (0 : Int32)), .val (.ref b61), .unset, .unset, .unset] [(.int (v98 - (1 : Int32)))]) (fun t k => XS.isub X91.here hx rfl (hb hby at_100) rfl k) ?_
        generalize hv100 : (v98 - (1 : Int32)) = v100
        have f100 : (v100.toInt - (v98.toInt - 1)) % 4294967296 = 0 := by rw [← hv100]; exact c_isub v98 (1 : Int32)
        have r100 := rng32 v100
        refine own_go (mkF m 103 #[.val (.int q1), .val (.int q2), .val (.int q3), .val (.int q4), .val (.int v3), .val (.int (0 : Int32)), .val (.int (1 : Int32)), .val (.int (0 : Int32)), .val (.ref b61), .val (.int v100), .unset, .unset] []) (fun t k => XS.istore X91.here hx rfl (hb hby at_101) rfl (l' := #[.val (.int q1), .val (.int q2), .val (.int q3), .val (.int q4), .val (.int v3), .val (.int (0 : Int32)), .val (.int (1 : Int32)), .val (.int (0 : Int32)), .val (.ref b61), .val (.int v100), .unset, .unset]) rfl k) ?_
        refine own_go (mkF m 105 #[.val (.int q1), .val (.int q2), .val (.int q3), .val (.int q4), .val (.int v3), .val (.int (0 : Int32)), .val (.int (1 : Int32)), .val (.int (0 : Int32)), .val (.ref b61), .val (.int v100), .unset, .unset] [(.ref b61)]) (fun t k => XS.aload X91.here hx rfl (hb hby at_103) rfl rfl k) ?_
        refine own_go (mkF m 106 #[.val (.int q1), .val (.int q2), .val (.int q3), .val (.int q4), .val (.int v3), .val (.int (0 : Int32)), .val (.int (1 : Int32)), .val (.int (0 : Int32)), .val (.ref b61), .val (.int v100), .unset, .unset] [(.int q4), (.ref b61)]) (fun t k => XS.iloadN X91.here hx rfl (hb hby at_105) rfl k) ?_
        refine own_callV X91 hx hZ (y := (⟨"com/example/chronoquorum/chronoquorum/LiveNodes", "positionOf", "(I)I"⟩ : MethodName)) hown (hw _ (List.mem_of_getElem? (i := 14) rfl)) (hw _ (List.mem_of_getElem? (i := 15) rfl)) (hw _ (List.mem_of_getElem? (i := 17) rfl)) (hw _ (List.mem_of_getElem? (i := 16) rfl)) (hw _ (List.mem_of_getElem? (i := 2) rfl)) (hw _ (List.mem_of_getElem? (i := 18) rfl)) (by decide) e91 b61 E91 (rm4 l Z a0 hw [] b61 q4 ap91 la91 nP91 P91 h91 n0 Z91 E91 Fp91 Fl91 Ap91 (by omega) ) 0 (by decide) (by decide) (by decide) (by decide) (g := (mkF m 106 #[.val (.int q1), .val (.int q2), .val (.int q3), .val (.int q4), .val (.int v3), .val (.int (0 : Int32)), .val (.int (1 : Int32)), .val (.int (0 : Int32)), .val (.ref b61), .val (.int v100), .unset, .unset] [(.int q4), (.ref b61)])) rfl (by rw [hml]; rfl) [(.int q4)] [] (lenOf pd0_1 rfl) rfl rfl (by show 2 * 0 + _ ≤ _; exact Nat.le_of_eq rfl) (hb hby at_106) ?_
        intro rv106 T106 h106 L106 X106 e106 hQ106
        obtain ⟨⟨rp106, rfl, hr106⟩, NQ106, eq106⟩ := hQ106
        rw [eq106] at e106
        have rr106 := rng32 rp106
        have N106 := Fr.app N91 NQ106
        show own_Ends p e below s room_1.cells room_1.slots (Q0 Z q1 q2 q3 q4 h0 n0) T106 (mkF m 109 #[.val (.int q1), .val (.int q2), .val (.int q3), .val (.int q4), .val (.int v3), .val (.int (0 : Int32)), .val (.int (1 : Int32)), .val (.int (0 : Int32)), .val (.ref b61), .val (.int v100), .unset, .unset] [(.int rp106)])
        refine own_go (mkF m 110 #[.val (.int q1), .val (.int q2), .val (.int q3), .val (.int q4), .val (.int v3), .val (.int (0 : Int32)), .val (.int (1 : Int32)), .val (.int (0 : Int32)), .val (.ref b61), .val (.int v100), .unset, .unset] [(.int q4), (.int rp106)]) (fun t k => XS.iloadN X106.here hx rfl (hb hby at_109) rfl k) ?_
        refine own_go (mkF m 112 #[.val (.int q1), .val (.int q2), .val (.int q3), .val (.int q4), .val (.int v3), .val (.int (0 : Int32)), .val (.int (1 : Int32)), .val (.int (0 : Int32)), .val (.ref b61), .val (.int v100), .unset, .unset] [(.int v3), (.int q4), (.int rp106)]) (fun t k => XS.iload X106.here hx rfl (hb hby at_110) rfl k) ?_
        refine own_go (mkF m 114 #[.val (.int q1), .val (.int q2), .val (.int q3), .val (.int q4), .val (.int v3), .val (.int (0 : Int32)), .val (.int (1 : Int32)), .val (.int (0 : Int32)), .val (.ref b61), .val (.int v100), .unset, .unset] [(.int (0 : Int32)), (.int v3), (.int q4), (.int rp106)]) (fun t k => XS.iload X106.here hx rfl (hb hby at_112) rfl k) ?_
        refine own_go (mkF m 116 #[.val (.int q1), .val (.int q2), .val (.int q3), .val (.int q4), .val (.int v3), .val (.int (0 : Int32)), .val (.int (1 : Int32)), .val (.int (0 : Int32)), .val (.ref b61), .val (.int v100), .unset, .unset] [(.int (0 : Int32)), (.int (0 : Int32)), (.int v3), (.int q4), (.int rp106)]) (fun t k => XS.iload X106.here hx rfl (hb hby at_114) rfl k) ?_
        refine own_go (mkF m 118 #[.val (.int q1), .val (.int q2), .val (.int q3), .val (.int q4), .val (.int v3), .val (.int (0 : Int32)), .val (.int (1 : Int32)), .val (.int (0 : Int32)), .val (.ref b61), .val (.int v100), .unset, .unset] [(.int (1 : Int32)), (.int (0 : Int32)), (.int (0 : Int32)), (.int v3), (.int q4), (.int rp106)]) (fun t k => XS.iload X106.here hx rfl (hb hby at_116) rfl k) ?_
        have lt118_2 : (0 : Int32).toInt = 0 := rfl
        have lt118_3 : (0 : Int32).toInt = 0 := rfl
        have lt118_4 : (1 : Int32).toInt = 1 := rfl
        refine own_callS X106 hx hZ (y := (⟨"com/example/chronoquorum/chronoquorum/LiveNodesPositionOfPinLaw", "expected", "(IIZIZ)I"⟩ : MethodName)) hown (hw _ (List.mem_of_getElem? (i := 21) rfl)) (hw _ (List.mem_of_getElem? (i := 22) rfl)) (hw _ (List.mem_of_getElem? (i := 23) rfl)) (hw _ (List.mem_of_getElem? (i := 24) rfl)) (by decide) e106 (rmE l Z a0 hw [] q4 v3 (0 : Int32) (0 : Int32) (1 : Int32) h91 n0 Z91 (by omega)) 1 (by decide) (by decide) (by decide) (by decide) (g := (mkF m 118 #[.val (.int q1), .val (.int q2), .val (.int q3), .val (.int q4), .val (.int v3), .val (.int (0 : Int32)), .val (.int (1 : Int32)), .val (.int (0 : Int32)), .val (.ref b61), .val (.int v100), .unset, .unset] [(.int (1 : Int32)), (.int (0 : Int32)), (.int (0 : Int32)), (.int v3), (.int q4), (.int rp106)])) rfl (by rw [hml]; rfl) [(.int q4), (.int v3), (.int (0 : Int32)), (.int (0 : Int32)), (.int (1 : Int32))] [(.int rp106)] (lenOf pd0_2 rfl) rfl rfl (by show 2 * 0 + _ ≤ _; exact Nat.le_of_eq rfl) (hb hby at_118) ?_
        intro rv118 T118 h118 L118 X118 e118 hQ118
        obtain ⟨⟨re118, rfl, hr118⟩, NQ118, eq118⟩ := hQ118
        rw [eq118] at e118
        have N118 := Fr.app N106 NQ118
        show own_Ends p e below s room_1.cells room_1.slots (Q0 Z q1 q2 q3 q4 h0 n0) T118 (mkF m 121 #[.val (.int q1), .val (.int q2), .val (.int q3), .val (.int q4), .val (.int v3), .val (.int (0 : Int32)), .val (.int (1 : Int32)), .val (.int (0 : Int32)), .val (.ref b61), .val (.int v100), .unset, .unset] [(.int re118), (.int rp106)])
        have c121 : rp106.toInt = re118.toInt := own_pos1 hr106 hr118 PX91 (by omega)
        refine own_go (mkF m 124 #[.val (.int q1), .val (.int q2), .val (.int q3), .val (.int q4), .val (.int v3), .val (.int (0 : Int32)), .val (.int (1 : Int32)), .val (.int (0 : Int32)), .val (.ref b61), .val (.int v100), .unset, .unset] []) (fun t k => XS.icmpNo X118.here hx rfl (hb hby at_121) rfl (own_icF (cd := .ne) (fun q => q c121)) k) ?_
        refine own_go (mkF m 125 #[.val (.int q1), .val (.int q2), .val (.int q3), .val (.int q4), .val (.int v3), .val (.int (0 : Int32)), .val (.int (1 : Int32)), .val (.int (0 : Int32)), .val (.ref b61), .val (.int v100), .unset, .unset] [(.int (1 : Int32))]) (fun t k => XS.iconst X118.here hx rfl (hb hby at_124) k) ?_
        refine own_go (mkF m 129 #[.val (.int q1), .val (.int q2), .val (.int q3), .val (.int q4), .val (.int v3), .val (.int (0 : Int32)), .val (.int (1 : Int32)), .val (.int (0 : Int32)), .val (.ref b61), .val (.int v100), .unset, .unset] [(.int (1 : Int32))]) (fun t k => XS.goto X118.here hx rfl (pc0 := 125) (pc' := 129) rfl (hb hby at_125) (by decide) (by decide) k) ?_
        refine own_go (mkF m 131 #[.val (.int q1), .val (.int q2), .val (.int q3), .val (.int q4), .val (.int v3), .val (.int (0 : Int32)), .val (.int (1 : Int32)), .val (.int (0 : Int32)), .val (.ref b61), .val (.int v100), .val (.int (1 : Int32)), .unset] []) (fun t k => XS.istore X118.here hx rfl (hb hby at_129) rfl (l' := #[.val (.int q1), .val (.int q2), .val (.int q3), .val (.int q4), .val (.int v3), .val (.int (0 : Int32)), .val (.int (1 : Int32)), .val (.int (0 : Int32)), .val (.ref b61), .val (.int v100), .val (.int (1 : Int32)), .unset]) rfl k) ?_
        refine own_go (mkF m 133 #[.val (.int q1), .val (.int q2), .val (.int q3), .val (.int q4), .val (.int v3), .val (.int (0 : Int32)), .val (.int (1 : Int32)), .val (.int (0 : Int32)), .val (.ref b61), .val (.int v100), .val (.int (1 : Int32)), .unset] [(.ref b61)]) (fun t k => XS.aload X118.here hx rfl (hb hby at_131) rfl rfl k) ?_
        refine own_go (mkF m 135 #[.val (.int q1), .val (.int q2), .val (.int q3), .val (.int q4), .val (.int v3), .val (.int (0 : Int32)), .val (.int (1 : Int32)), .val (.int (0 : Int32)), .val (.ref b61), .val (.int v100), .val (.int (1 : Int32)), .unset] [(.int v100), (.ref b61)]) (fun t k => XS.iload X118.here hx rfl (hb hby at_133) rfl k) ?_
        refine own_callV X118 hx hZ (y := (⟨"com/example/chronoquorum/chronoquorum/LiveNodes", "positionOf", "(I)I"⟩ : MethodName)) hown (hw _ (List.mem_of_getElem? (i := 14) rfl)) (hw _ (List.mem_of_getElem? (i := 15) rfl)) (hw _ (List.mem_of_getElem? (i := 17) rfl)) (hw _ (List.mem_of_getElem? (i := 16) rfl)) (hw _ (List.mem_of_getElem? (i := 2) rfl)) (hw _ (List.mem_of_getElem? (i := 18) rfl)) (by decide) e118 b61 E91 (rm4 l Z a0 hw [] b61 v100 ap91 la91 nP91 P91 h91 n0 Z91 E91 Fp91 Fl91 Ap91 (by omega) ) 0 (by decide) (by decide) (by decide) (by decide) (g := (mkF m 135 #[.val (.int q1), .val (.int q2), .val (.int q3), .val (.int q4), .val (.int v3), .val (.int (0 : Int32)), .val (.int (1 : Int32)), .val (.int (0 : Int32)), .val (.ref b61), .val (.int v100), .val (.int (1 : Int32)), .unset] [(.int v100), (.ref b61)])) rfl (by rw [hml]; rfl) [(.int v100)] [] (lenOf pd0_1 rfl) rfl rfl (by show 2 * 0 + _ ≤ _; exact Nat.le_of_eq rfl) (hb hby at_135) ?_
        intro rv135 T135 h135 L135 X135 e135 hQ135
        obtain ⟨⟨rp135, rfl, hr135⟩, NQ135, eq135⟩ := hQ135
        rw [eq135] at e135
        have rr135 := rng32 rp135
        have N135 := Fr.app N118 NQ135
        show own_Ends p e below s room_1.cells room_1.slots (Q0 Z q1 q2 q3 q4 h0 n0) T135 (mkF m 138 #[.val (.int q1), .val (.int q2), .val (.int q3), .val (.int q4), .val (.int v3), .val (.int (0 : Int32)), .val (.int (1 : Int32)), .val (.int (0 : Int32)), .val (.ref b61), .val (.int v100), .val (.int (1 : Int32)), .unset] [(.int rp135)])
        refine own_go (mkF m 140 #[.val (.int q1), .val (.int q2), .val (.int q3), .val (.int q4), .val (.int v3), .val (.int (0 : Int32)), .val (.int (1 : Int32)), .val (.int (0 : Int32)), .val (.ref b61), .val (.int v100), .val (.int (1 : Int32)), .unset] [(.int v100), (.int rp135)]) (fun t k => XS.iload X135.here hx rfl (hb hby at_138) rfl k) ?_
        refine own_go (mkF m 142 #[.val (.int q1), .val (.int q2), .val (.int q3), .val (.int q4), .val (.int v3), .val (.int (0 : Int32)), .val (.int (1 : Int32)), .val (.int (0 : Int32)), .val (.ref b61), .val (.int v100), .val (.int (1 : Int32)), .unset] [(.int v3), (.int v100), (.int rp135)]) (fun t k => XS.iload X135.here hx rfl (hb hby at_140) rfl k) ?_
        refine own_go (mkF m 144 #[.val (.int q1), .val (.int q2), .val (.int q3), .val (.int q4), .val (.int v3), .val (.int (0 : Int32)), .val (.int (1 : Int32)), .val (.int (0 : Int32)), .val (.ref b61), .val (.int v100), .val (.int (1 : Int32)), .unset] [(.int (0 : Int32)), (.int v3), (.int v100), (.int rp135)]) (fun t k => XS.iload X135.here hx rfl (hb hby at_142) rfl k) ?_
        refine own_go (mkF m 146 #[.val (.int q1), .val (.int q2), .val (.int q3), .val (.int q4), .val (.int v3), .val (.int (0 : Int32)), .val (.int (1 : Int32)), .val (.int (0 : Int32)), .val (.ref b61), .val (.int v100), .val (.int (1 : Int32)), .unset] [(.int (0 : Int32)), (.int (0 : Int32)), (.int v3), (.int v100), (.int rp135)]) (fun t k => XS.iload X135.here hx rfl (hb hby at_144) rfl k) ?_
        refine own_go (mkF m 148 #[.val (.int q1), .val (.int q2), .val (.int q3), .val (.int q4), .val (.int v3), .val (.int (0 : Int32)), .val (.int (1 : Int32)), .val (.int (0 : Int32)), .val (.ref b61), .val (.int v100), .val (.int (1 : Int32)), .unset] [(.int (1 : Int32)), (.int (0 : Int32)), (.int (0 : Int32)), (.int v3), (.int v100), (.int rp135)]) (fun t k => XS.iload X135.here hx rfl (hb hby at_146) rfl k) ?_
        have lt148_2 : (0 : Int32).toInt = 0 := rfl
        have lt148_3 : (0 : Int32).toInt = 0 := rfl
        have lt148_4 : (1 : Int32).toInt = 1 := rfl
        refine own_callS X135 hx hZ (y := (⟨"com/example/chronoquorum/chronoquorum/LiveNodesPositionOfPinLaw", "expected", "(IIZIZ)I"⟩ : MethodName)) hown (hw _ (List.mem_of_getElem? (i := 21) rfl)) (hw _ (List.mem_of_getElem? (i := 22) rfl)) (hw _ (List.mem_of_getElem? (i := 23) rfl)) (hw _ (List.mem_of_getElem? (i := 24) rfl)) (by decide) e135 (rmE l Z a0 hw [] v100 v3 (0 : Int32) (0 : Int32) (1 : Int32) h91 n0 Z91 (by omega)) 1 (by decide) (by decide) (by decide) (by decide) (g := (mkF m 148 #[.val (.int q1), .val (.int q2), .val (.int q3), .val (.int q4), .val (.int v3), .val (.int (0 : Int32)), .val (.int (1 : Int32)), .val (.int (0 : Int32)), .val (.ref b61), .val (.int v100), .val (.int (1 : Int32)), .unset] [(.int (1 : Int32)), (.int (0 : Int32)), (.int (0 : Int32)), (.int v3), (.int v100), (.int rp135)])) rfl (by rw [hml]; rfl) [(.int v100), (.int v3), (.int (0 : Int32)), (.int (0 : Int32)), (.int (1 : Int32))] [(.int rp135)] (lenOf pd0_2 rfl) rfl rfl (by show 2 * 0 + _ ≤ _; exact Nat.le_of_eq rfl) (hb hby at_148) ?_
        intro rv148 T148 h148 L148 X148 e148 hQ148
        obtain ⟨⟨re148, rfl, hr148⟩, NQ148, eq148⟩ := hQ148
        rw [eq148] at e148
        have N148 := Fr.app N135 NQ148
        show own_Ends p e below s room_1.cells room_1.slots (Q0 Z q1 q2 q3 q4 h0 n0) T148 (mkF m 151 #[.val (.int q1), .val (.int q2), .val (.int q3), .val (.int q4), .val (.int v3), .val (.int (0 : Int32)), .val (.int (1 : Int32)), .val (.int (0 : Int32)), .val (.ref b61), .val (.int v100), .val (.int (1 : Int32)), .unset] [(.int re148), (.int rp135)])
        have c151 : rp135.toInt = re148.toInt := own_pos1 hr135 hr148 PX91 (by omega)
        refine own_go (mkF m 154 #[.val (.int q1), .val (.int q2), .val (.int q3), .val (.int q4), .val (.int v3), .val (.int (0 : Int32)), .val (.int (1 : Int32)), .val (.int (0 : Int32)), .val (.ref b61), .val (.int v100), .val (.int (1 : Int32)), .unset] []) (fun t k => XS.icmpNo X148.here hx rfl (hb hby at_151) rfl (own_icF (cd := .ne) (fun q => q c151)) k) ?_
        refine own_go (mkF m 155 #[.val (.int q1), .val (.int q2), .val (.int q3), .val (.int q4), .val (.int v3), .val (.int (0 : Int32)), .val (.int (1 : Int32)), .val (.int (0 : Int32)), .val (.ref b61), .val (.int v100), .val (.int (1 : Int32)), .unset] [(.int (1 : Int32))]) (fun t k => XS.iconst X148.here hx rfl (hb hby at_154) k) ?_
        refine own_go (mkF m 159 #[.val (.int q1), .val (.int q2), .val (.int q3), .val (.int q4), .val (.int v3), .val (.int (0 : Int32)), .val (.int (1 : Int32)), .val (.int (0 : Int32)), .val (.ref b61), .val (.int v100), .val (.int (1 : Int32)), .unset] [(.int (1 : Int32))]) (fun t k => XS.goto X148.here hx rfl (pc0 := 155) (pc' := 159) rfl (hb hby at_155) (by decide) (by decide) k) ?_
        refine own_go (mkF m 161 #[.val (.int q1), .val (.int q2), .val (.int q3), .val (.int q4), .val (.int v3), .val (.int (0 : Int32)), .val (.int (1 : Int32)), .val (.int (0 : Int32)), .val (.ref b61), .val (.int v100), .val (.int (1 : Int32)), .val (.int (1 : Int32))] []) (fun t k => XS.istore X148.here hx rfl (hb hby at_159) rfl (l' := #[.val (.int q1), .val (.int q2), .val (.int q3), .val (.int q4), .val (.int v3), .val (.int (0 : Int32)), .val (.int (1 : Int32)), .val (.int (0 : Int32)), .val (.ref b61), .val (.int v100), .val (.int (1 : Int32)), .val (.int (1 : Int32))]) rfl k) ?_
        refine own_go (mkF m 163 #[.val (.int q1), .val (.int q2), .val (.int q3), .val (.int q4), .val (.int v3), .val (.int (0 : Int32)), .val (.int (1 : Int32)), .val (.int (0 : Int32)), .val (.ref b61), .val (.int v100), .val (.int (1 : Int32)), .val (.int (1 : Int32))] [(.int (1 : Int32))]) (fun t k => XS.iload X148.here hx rfl (hb hby at_161) rfl k) ?_
        refine own_go (mkF m 166 #[.val (.int q1), .val (.int q2), .val (.int q3), .val (.int q4), .val (.int v3), .val (.int (0 : Int32)), .val (.int (1 : Int32)), .val (.int (0 : Int32)), .val (.ref b61), .val (.int v100), .val (.int (1 : Int32)), .val (.int (1 : Int32))] []) (fun t k => XS.ifNo X148.here hx rfl (hb hby at_163) rfl (by decide) k) ?_
        refine own_go (mkF m 168 #[.val (.int q1), .val (.int q2), .val (.int q3), .val (.int q4), .val (.int v3), .val (.int (0 : Int32)), .val (.int (1 : Int32)), .val (.int (0 : Int32)), .val (.ref b61), .val (.int v100), .val (.int (1 : Int32)), .val (.int (1 : Int32))] [(.int (1 : Int32))]) (fun t k => XS.iload X148.here hx rfl (hb hby at_166) rfl k) ?_
        refine own_go (mkF m 171 #[.val (.int q1), .val (.int q2), .val (.int q3), .val (.int q4), .val (.int v3), .val (.int (0 : Int32)), .val (.int (1 : Int32)), .val (.int (0 : Int32)), .val (.ref b61), .val (.int v100), .val (.int (1 : Int32)), .val (.int (1 : Int32))] []) (fun t k => XS.ifNo X148.here hx rfl (hb hby at_168) rfl (by decide) k) ?_
        refine own_go (mkF m 172 #[.val (.int q1), .val (.int q2), .val (.int q3), .val (.int q4), .val (.int v3), .val (.int (0 : Int32)), .val (.int (1 : Int32)), .val (.int (0 : Int32)), .val (.ref b61), .val (.int v100), .val (.int (1 : Int32)), .val (.int (1 : Int32))] [(.int (1 : Int32))]) (fun t k => XS.iconst X148.here hx rfl (hb hby at_171) k) ?_
        refine own_go (mkF m 176 #[.val (.int q1), .val (.int q2), .val (.int q3), .val (.int q4), .val (.int v3), .val (.int (0 : Int32)), .val (.int (1 : Int32)), .val (.int (0 : Int32)), .val (.ref b61), .val (.int v100), .val (.int (1 : Int32)), .val (.int (1 : Int32))] [(.int (1 : Int32))]) (fun t k => XS.goto X148.here hx rfl (pc0 := 172) (pc' := 176) rfl (hb hby at_172) (by decide) (by decide) k) ?_
        refine own_retI X148 hx hlk hret (by simp) rfl (hb hby at_176) (by decide) (by decide) ?_
        rw [e148]
        exact ⟨rfl, N148⟩
    · skip
      refine own_go (mkF m 19 #[.val (.int q1), .val (.int q2), .val (.int q3), .val (.int q4), .val (.int v3), .unset, .unset, .unset, .unset, .unset, .unset, .unset] []) (fun t k => XS.ifNo X0.here hx rfl (hb hby at_16) rfl (own_zF (cd := .le) c16) k) ?_
      refine own_go (mkF m 20 #[.val (.int q1), .val (.int q2), .val (.int q3), .val (.int q4), .val (.int v3), .unset, .unset, .unset, .unset, .unset, .unset, .unset] [(.int (1 : Int32))]) (fun t k => XS.iconst X0.here hx rfl (hb hby at_19) k) ?_
      refine own_go (mkF m 24 #[.val (.int q1), .val (.int q2), .val (.int q3), .val (.int q4), .val (.int v3), .unset, .unset, .unset, .unset, .unset, .unset, .unset] [(.int (1 : Int32))]) (fun t k => XS.goto X0.here hx rfl (pc0 := 20) (pc' := 24) rfl (hb hby at_20) (by decide) (by decide) k) ?_
      refine own_go (mkF m 26 #[.val (.int q1), .val (.int q2), .val (.int q3), .val (.int q4), .val (.int v3), .val (.int (1 : Int32)), .unset, .unset, .unset, .unset, .unset, .unset] []) (fun t k => XS.istore X0.here hx rfl (hb hby at_24) rfl (l' := #[.val (.int q1), .val (.int q2), .val (.int q3), .val (.int q4), .val (.int v3), .val (.int (1 : Int32)), .unset, .unset, .unset, .unset, .unset, .unset]) rfl k) ?_
      refine own_go (mkF m 27 #[.val (.int q1), .val (.int q2), .val (.int q3), .val (.int q4), .val (.int v3), .val (.int (1 : Int32)), .unset, .unset, .unset, .unset, .unset, .unset] [(.int q1)]) (fun t k => XS.iloadN X0.here hx rfl (hb hby at_26) rfl k) ?_
      refine own_go (mkF m 28 #[.val (.int q1), .val (.int q2), .val (.int q3), .val (.int q4), .val (.int v3), .val (.int (1 : Int32)), .unset, .unset, .unset, .unset, .unset, .unset] [(.int (4 : Int32)), (.int q1)]) (fun t k => XS.iconst X0.here hx rfl (hb hby at_27) k) ?_
      refine own_go (mkF m 29 #[.val (.int q1), .val (.int q2), .val (.int q3), .val (.int q4), .val (.int v3), .val (.int (1 : Int32)), .unset, .unset, .unset, .unset, .unset, .unset] [(.int ((q1.toUInt32 >>> ((4 : Int32) &&& 31).toUInt32).toInt32))]) (fun t k => XS.iushr X0.here hx rfl (hb hby at_28) rfl k) ?_
      generalize hv28 : ((q1.toUInt32 >>> ((4 : Int32) &&& 31).toUInt32).toInt32) = v28
      refine own_go (mkF m 30 #[.val (.int q1), .val (.int q2), .val (.int q3), .val (.int q4), .val (.int v3), .val (.int (1 : Int32)), .unset, .unset, .unset, .unset, .unset, .unset] [(.int (1 : Int32)), (.int v28)]) (fun t k => XS.iconst X0.here hx rfl (hb hby at_29) k) ?_
      refine own_go (mkF m 31 #[.val (.int q1), .val (.int q2), .val (.int q3), .val (.int q4), .val (.int v3), .val (.int (1 : Int32)), .unset, .unset, .unset, .unset, .unset, .unset] [(.int (v28 &&& (1 : Int32)))]) (fun t k => XS.iand X0.here hx rfl (hb hby at_30) rfl k) ?_
      generalize hv30 : (v28 &&& (1 : Int32)) = v30
      have f30 : v30.toInt = v28.toInt % 2 := by rw [← hv30]; exact c_mask v28 (1 : Int32) 1 (by decide) (by decide)
      have r30 := rng32 v30
      by_cases c31 : v30.toInt = 0
      · skip
        refine own_go (mkF m 38 #[.val (.int q1), .val (.int q2), .val (.int q3), .val (.int q4), .val (.int v3), .val (.int (1 : Int32)), .unset, .unset, .unset, .unset, .unset, .unset] []) (fun t k => XS.ifYes X0.here hx rfl (pc0 := 31) (pc' := 38) rfl (hb hby at_31) rfl (own_zT (cd := .eq) c31) (by decide) (by decide) k) ?_
        refine own_go (mkF m 39 #[.val (.int q1), .val (.int q2), .val (.int q3), .val (.int q4), .val (.int v3), .val (.int (1 : Int32)), .unset, .unset, .unset, .unset, .unset, .unset] [(.int (0 : Int32))]) (fun t k => XS.iconst X0.here hx rfl (hb hby at_38) k) ?_
        refine own_go (mkF m 41 #[.val (.int q1), .val (.int q2), .val (.int q3), .val (.int q4), .val (.int v3), .val (.int (1 : Int32)), .val (.int (0 : Int32)), .unset, .unset, .unset, .unset, .unset] []) (fun t k => XS.istore X0.here hx rfl (hb hby at_39) rfl (l' := #[.val (.int q1), .val (.int q2), .val (.int q3), .val (.int q4), .val (.int v3), .val (.int (1 : Int32)), .val (.int (0 : Int32)), .unset, .unset, .unset, .unset, .unset]) rfl k) ?_
        refine own_go (mkF m 43 #[.val (.int q1), .val (.int q2), .val (.int q3), .val (.int q4), .val (.int v3), .val (.int (1 : Int32)), .val (.int (0 : Int32)), .unset, .unset, .unset, .unset, .unset] [(.int v3)]) (fun t k => XS.iload X0.here hx rfl (hb hby at_41) rfl k) ?_
        have c43 : ¬ (v3.toInt ≤ 0) := by omega
        refine own_go (mkF m 46 #[.val (.int q1), .val (.int q2), .val (.int q3), .val (.int q4), .val (.int v3), .val (.int (1 : Int32)), .val (.int (0 : Int32)), .unset, .unset, .unset, .unset, .unset] []) (fun t k => XS.ifNo X0.here hx rfl (hb hby at_43) rfl (own_zF (cd := .le) c43) k) ?_
        refine own_go (mkF m 47 #[.val (.int q1), .val (.int q2), .val (.int q3), .val (.int q4), .val (.int v3), .val (.int (1 : Int32)), .val (.int (0 : Int32)), .unset, .unset, .unset, .unset, .unset] [(.int q3)]) (fun t k => XS.iloadN X0.here hx rfl (hb hby at_46) rfl k) ?_
        refine own_go (mkF m 49 #[.val (.int q1), .val (.int q2), .val (.int q3), .val (.int q4), .val (.int v3), .val (.int (1 : Int32)), .val (.int (0 : Int32)), .unset, .unset, .unset, .unset, .unset] [(.int (2147483647 : Int32)), (.int q3)]) (fun t k => X0.ldcInt hx hown (mvT hZ (hw _ (List.mem_of_getElem? (i := 25) rfl))) (g := (mkF m 47 #[.val (.int q1), .val (.int q2), .val (.int q3), .val (.int q4), .val (.int v3), .val (.int (1 : Int32)), .val (.int (0 : Int32)), .unset, .unset, .unset, .unset, .unset] [(.int q3)])) rfl (hb hby at_47) _ k) ?_
        refine own_go (mkF m 50 #[.val (.int q1), .val (.int q2), .val (.int q3), .val (.int q4), .val (.int v3), .val (.int (1 : Int32)), .val (.int (0 : Int32)), .unset, .unset, .unset, .unset, .unset] [(.int (q3 &&& (2147483647 : Int32)))]) (fun t k => XS.iand X0.here hx rfl (hb hby at_49) rfl k) ?_
        generalize hv49 : (q3 &&& (2147483647 : Int32)) = v49
        have f49 : v49.toInt = q3.toInt % 2147483648 := by rw [← hv49]; exact c_mask q3 (2147483647 : Int32) 31 (by decide) (by decide)
        have r49 := rng32 v49
        refine own_go (mkF m 52 #[.val (.int q1), .val (.int q2), .val (.int q3), .val (.int q4), .val (.int v3), .val (.int (1 : Int32)), .val (.int (0 : Int32)), .unset, .unset, .unset, .unset, .unset] [(.int v3), (.int v49)]) (fun t k => XS.iload X0.here hx rfl (hb hby at_50) rfl k) ?_
        refine own_go (mkF m 53 #[.val (.int q1), .val (.int q2), .val (.int q3), .val (.int q4), .val (.int v3), .val (.int (1 : Int32)), .val (.int (0 : Int32)), .unset, .unset, .unset, .unset, .unset] [(.int (v49 % v3))]) (fun t k => Jvm.RoadKit.iremM X0 hx rfl (hb hby at_52) rfl (own_nz32 (by omega)) k) ?_
        generalize hv52 : (v49 % v3) = v52
        have f52 : 0 ≤ v49.toInt → 0 < v3.toInt → 0 ≤ v52.toInt ∧ v52.toInt < v3.toInt ∧ v52.toInt ≤ v49.toInt := by rw [← hv52]; exact own_iremV v49 v3
        have r52 := rng32 v52
        refine own_go (mkF m 54 #[.val (.int q1), .val (.int q2), .val (.int q3), .val (.int q4), .val (.int v3), .val (.int (1 : Int32)), .val (.int (0 : Int32)), .unset, .unset, .unset, .unset, .unset] [(.int (1 : Int32)), (.int v52)]) (fun t k => XS.iconst X0.here hx rfl (hb hby at_53) k) ?_
        refine own_go (mkF m 55 #[.val (.int q1), .val (.int q2), .val (.int q3), .val (.int q4), .val (.int v3), .val (.int (1 : Int32)), .val (.int (0 : Int32)), .unset, .unset, .unset, .unset, .unset] [(.int (v52 + (1 : Int32)))]) (fun t k => XS.iadd X0.here hx rfl (hb hby at_54) rfl k) ?_
        generalize hv54 : (v52 + (1 : Int32)) = v54
        have f54 : (v54.toInt - (v52.toInt + 1)) % 4294967296 = 0 := by rw [← hv54]; exact c_iadd v52 (1 : Int32)
        have r54 := rng32 v54
        have k54 : 1 ≤ v54.toInt ∧ v54.toInt ≤ v3.toInt := by omega
        clear f49 f52 f54 r49 r52 r54
        refine own_go (mkF m 59 #[.val (.int q1), .val (.int q2), .val (.int q3), .val (.int q4), .val (.int v3), .val (.int (1 : Int32)), .val (.int (0 : Int32)), .unset, .unset, .unset, .unset, .unset] [(.int v54)]) (fun t k => XS.goto X0.here hx rfl (pc0 := 55) (pc' := 59) rfl (hb hby at_55) (by decide) (by decide) k) ?_
        refine own_go (mkF m 61 #[.val (.int q1), .val (.int q2), .val (.int q3), .val (.int q4), .val (.int v3), .val (.int (1 : Int32)), .val (.int (0 : Int32)), .val (.int v54), .unset, .unset, .unset, .unset] []) (fun t k => XS.istore X0.here hx rfl (hb hby at_59) rfl (l' := #[.val (.int q1), .val (.int q2), .val (.int q3), .val (.int q4), .val (.int v3), .val (.int (1 : Int32)), .val (.int (0 : Int32)), .val (.int v54), .unset, .unset, .unset, .unset]) rfl k) ?_
        obtain ⟨T61, h61, X61, e61, E61, A61, D61, -, st61⟩ := newO X0 hx hZ hown (hw _ (List.mem_of_getElem? (i := 0) rfl)) (hw _ (List.mem_of_getElem? (i := 1) rfl)) (hw _ (List.mem_of_getElem? (i := 2) rfl)) e0 (g := (mkF m 61 #[.val (.int q1), .val (.int q2), .val (.int q3), .val (.int q4), .val (.int v3), .val (.int (1 : Int32)), .val (.int (0 : Int32)), .val (.int v54), .unset, .unset, .unset, .unset] [])) rfl (hb hby at_61) (by decide) (by decide)
        obtain ⟨b61, g61⟩ : ∃ z, z = h0.size := ⟨_, rfl⟩
        rw [← g61] at A61 D61 st61
        have gb61 : n0 ≤ b61 := Nat.le_trans Z0 (Nat.le_of_eq g61.symm)
        have Z0_61 : n0 ≤ h61.size := Nat.le_trans Z0 E61.1
        have F_ids_b61 : Fld Z h61 b61 "com/example/chronoquorum/chronoquorum/LiveNodes" "ids" "[I" (.null) := D61 (Or.inl (hw _ (List.mem_of_getElem? (i := 11) rfl))) (ty := (.array .int)) (by decide)
        have F_positions_b61 : Fld Z h61 b61 "com/example/chronoquorum/chronoquorum/LiveNodes" "positions" "[I" (.null) := D61 (Or.inl (hw _ (List.mem_of_getElem? (i := 13) rfl))) (ty := (.array .int)) (by decide)
        have F_lastId_b61 : Fld Z h61 b61 "com/example/chronoquorum/chronoquorum/LiveNodes" "lastId" "I" (.int (0 : Int32)) := D61 (Or.inl (hw _ (List.mem_of_getElem? (i := 20) rfl))) (ty := .int) (by decide)
        have F_size_b61 : Fld Z h61 b61 "com/example/chronoquorum/chronoquorum/LiveNodes" "size" "I" (.int (0 : Int32)) := D61 (Or.inl (hw _ (List.mem_of_getElem? (i := 37) rfl))) (ty := .int) (by decide)
        refine own_go (T' := T61) (mkF m 64 #[.val (.int q1), .val (.int q2), .val (.int q3), .val (.int q4), .val (.int v3), .val (.int (1 : Int32)), .val (.int (0 : Int32)), .val (.int v54), .unset, .unset, .unset, .unset] [(.ref b61)]) st61 ?_
        refine own_go (mkF m 65 #[.val (.int q1), .val (.int q2), .val (.int q3), .val (.int q4), .val (.int v3), .val (.int (1 : Int32)), .val (.int (0 : Int32)), .val (.int v54), .unset, .unset, .unset, .unset] [(.ref b61), (.ref b61)]) (fun t k => XS.dup X61.here hx rfl (hb hby at_64) rfl rfl k) ?_
        refine own_go (mkF m 67 #[.val (.int q1), .val (.int q2), .val (.int q3), .val (.int q4), .val (.int v3), .val (.int (1 : Int32)), .val (.int (0 : Int32)), .val (.int v54), .unset, .unset, .unset, .unset] [(.int v3), (.ref b61), (.ref b61)]) (fun t k => XS.iload X61.here hx rfl (hb hby at_65) rfl k) ?_
        refine own_callI X61 hx hZ (y := (⟨"com/example/chronoquorum/chronoquorum/LiveNodes", "<init>", "(I)V"⟩ : MethodName)) hown rfl (hw _ (List.mem_of_getElem? (i := 3) rfl)) (hw _ (List.mem_of_getElem? (i := 4) rfl)) (hw _ (List.mem_of_getElem? (i := 2) rfl)) (hw _ (List.mem_of_getElem? (i := 5) rfl)) (by decide) e61 (rm1 l Z a0 hw [] b61 v3 h61 n0 Z0_61 A61 F_ids_b61 F_positions_b61 F_lastId_b61 F_size_b61 gb61 (by omega)) 1 (by decide) (by decide) (by decide) (by decide) (g := (mkF m 67 #[.val (.int q1), .val (.int q2), .val (.int q3), .val (.int q4), .val (.int v3), .val (.int (1 : Int32)), .val (.int (0 : Int32)), .val (.int v54), .unset, .unset, .unset, .unset] [(.int v3), (.ref b61), (.ref b61)])) rfl (by rw [hml]; rfl) b61 [(.int v3)] [(.ref b61)] (lenOf pd0_0 rfl) rfl rfl (by show 2 * 0 + _ ≤ _; exact Nat.le_of_eq rfl) (hb hby at_67) ?_
        intro rv67 T67 h67 L67 X67 e67 hQ67
        obtain ⟨rfl, NQ67, KQ67, ai, ap, sz, la, nI, nP, I, P, EQ, Fi, Fp, Fs, Fl, Ai, Ap, gai, gap, ne1, ne2, ne3, hsz, hla, hnI, hnP, hini⟩ := hQ67
        have Z67 : n0 ≤ h67.size := Nat.le_trans Z0_61 KQ67.1
        have rsz := rng32 sz
        have rla := rng32 la
        have V0 : own_V sz.toInt la.toInt I P := by rw [hsz, hla]; exact own_V_start (by omega) hini
        have D0 : own_D P la.toInt 0 0 := by rw [hla]; exact own_D0 hini.2
        have N67 := Fr.app N0 NQ67
        show own_Ends p e below s room_1.cells room_1.slots (Q0 Z q1 q2 q3 q4 h0 n0) T67 (mkF m 70 #[.val (.int q1), .val (.int q2), .val (.int q3), .val (.int q4), .val (.int v3), .val (.int (1 : Int32)), .val (.int (0 : Int32)), .val (.int v54), .unset, .unset, .unset, .unset] [(.ref b61)])
        have PX0 : own_X P v3.toInt v3.toInt 0 v54.toInt 0 := own_X0 hini.2
        have r3' : 0 ≤ v3.toInt ∧ v3.toInt ≤ 7 := by omega
        clear f3
        refine own_go (mkF m 72 #[.val (.int q1), .val (.int q2), .val (.int q3), .val (.int q4), .val (.int v3), .val (.int (1 : Int32)), .val (.int (0 : Int32)), .val (.int v54), .val (.ref b61), .unset, .unset, .unset] []) (fun t k => XS.astore X67.here hx rfl (hb hby at_70) rfl rfl (l' := #[.val (.int q1), .val (.int q2), .val (.int q3), .val (.int q4), .val (.int v3), .val (.int (1 : Int32)), .val (.int (0 : Int32)), .val (.int v54), .val (.ref b61), .unset, .unset, .unset]) rfl k) ?_
        refine own_go (mkF m 74 #[.val (.int q1), .val (.int q2), .val (.int q3), .val (.int q4), .val (.int v3), .val (.int (1 : Int32)), .val (.int (0 : Int32)), .val (.int v54), .val (.ref b61), .unset, .unset, .unset] [(.int (1 : Int32))]) (fun t k => XS.iload X67.here hx rfl (hb hby at_72) rfl k) ?_
        refine own_go (mkF m 77 #[.val (.int q1), .val (.int q2), .val (.int q3), .val (.int q4), .val (.int v3), .val (.int (1 : Int32)), .val (.int (0 : Int32)), .val (.int v54), .val (.ref b61), .unset, .unset, .unset] []) (fun t k => XS.ifNo X67.here hx rfl (hb hby at_74) rfl (by decide) k) ?_
        refine own_go (mkF m 79 #[.val (.int q1), .val (.int q2), .val (.int q3), .val (.int q4), .val (.int v3), .val (.int (1 : Int32)), .val (.int (0 : Int32)), .val (.int v54), .val (.ref b61), .unset, .unset, .unset] [(.ref b61)]) (fun t k => XS.aload X67.here hx rfl (hb hby at_77) rfl rfl k) ?_
        refine own_go (mkF m 81 #[.val (.int q1), .val (.int q2), .val (.int q3), .val (.int q4), .val (.int v3), .val (.int (1 : Int32)), .val (.int (0 : Int32)), .val (.int v54), .val (.ref b61), .unset, .unset, .unset] [(.int v54), (.ref b61)]) (fun t k => XS.iload X67.here hx rfl (hb hby at_79) rfl k) ?_
        have lq81 := own_alive (x := v54.toInt) D0 (by omega) (by omega) (by omega) (by omega)
        have kq81 := V0.2.2.2 v54.toInt lq81.1 lq81.2.1 lq81.2.2
        have tq81 := V0.2.2.1 (sz.toInt - 1) (by omega) (by omega)
        refine own_callV X67 hx hZ (y := (⟨"com/example/chronoquorum/chronoquorum/LiveNodes", "leave", "(I)V"⟩ : MethodName)) hown (hw _ (List.mem_of_getElem? (i := 38) rfl)) (hw _ (List.mem_of_getElem? (i := 39) rfl)) (hw _ (List.mem_of_getElem? (i := 41) rfl)) (hw _ (List.mem_of_getElem? (i := 40) rfl)) (hw _ (List.mem_of_getElem? (i := 2) rfl)) (hw _ (List.mem_of_getElem? (i := 42) rfl)) (by decide) e67 b61 EQ (rm8 l Z a0 hw [] b61 v54 ai ap sz la nI nP I P h67 n0 Z67 EQ Fi Fp Fs Fl Ai Ap gb61 gai gap ne1 ne2 ne3 (by omega) lq81 (by omega)) 0 (by decide) (by decide) (by decide) (by decide) (g := (mkF m 81 #[.val (.int q1), .val (.int q2), .val (.int q3), .val (.int q4), .val (.int v3), .val (.int (1 : Int32)), .val (.int (0 : Int32)), .val (.int v54), .val (.ref b61), .unset, .unset, .unset] [(.int v54), (.ref b61)])) rfl (by rw [hml]; rfl) [(.int v54)] [] (lenOf pd0_0 rfl) rfl rfl (by show 2 * 0 + _ ≤ _; exact Nat.le_of_eq rfl) (hb hby at_81) ?_
        intro rv81 T81 h81 L81 X81 e81 hQ81
        obtain ⟨rfl, NQ81, KQ81, sz81, I81, P81, E81, Fi81, Fp81, Fs81, Fl81, Ai81, Ap81, hs81, hv81_⟩ := hQ81
        have Z81 : n0 ≤ h81.size := Nat.le_trans Z67 KQ81.1
        have rs81 := rng32 sz81
        have V81 : own_V sz81.toInt la.toInt I81 P81 := by rw [hs81]; exact own_V_leave V0 lq81.1 lq81.2.1 lq81.2.2 hv81_
        have lv81 := own_lv_live V0 lq81.1 lq81.2.1 lq81.2.2 hv81_
        have D81 : own_D P81 la.toInt v54.toInt 0 := own_D_l1 D0 lv81
        have N81 := Fr.app N67 NQ81
        show own_Ends p e below s room_1.cells room_1.slots (Q0 Z q1 q2 q3 q4 h0 n0) T81 (mkF m 84 #[.val (.int q1), .val (.int q2), .val (.int q3), .val (.int q4), .val (.int v3), .val (.int (1 : Int32)), .val (.int (0 : Int32)), .val (.int v54), .val (.ref b61), .unset, .unset, .unset] [])
        have PX81 : own_X P81 v3.toInt v3.toInt 1 v54.toInt 0 := own_X_leave hini (by omega) (by omega) hsz hla hv81_
        refine own_go (mkF m 86 #[.val (.int q1), .val (.int q2), .val (.int q3), .val (.int q4), .val (.int v3), .val (.int (1 : Int32)), .val (.int (0 : Int32)), .val (.int v54), .val (.ref b61), .unset, .unset, .unset] [(.int (0 : Int32))]) (fun t k => XS.iload X81.here hx rfl (hb hby at_84) rfl k) ?_
        refine own_go (mkF m 95 #[.val (.int q1), .val (.int q2), .val (.int q3), .val (.int q4), .val (.int v3), .val (.int (1 : Int32)), .val (.int (0 : Int32)), .val (.int v54), .val (.ref b61), .unset, .unset, .unset] []) (fun t k => XS.ifYes X81.here hx rfl (pc0 := 86) (pc' := 95) rfl (hb hby at_86) rfl (by decide) (by decide) (by decide) k) ?_
        refine own_go (mkF m 96 #[.val (.int q1), .val (.int q2), .val (.int q3), .val (.int q4), .val (.int v3), .val (.int (1 : Int32)), .val (.int (0 : Int32)), .val (.int v54), .val (.ref b61), .unset, .unset, .unset] [(.int q2)]) (fun t k => XS.iloadN X81.here hx rfl (hb hby at_95) rfl k) ?_
        refine own_go (mkF m 98 #[.val (.int q1), .val (.int q2), .val (.int q3), .val (.int q4), .val (.int v3), .val (.int (1 : Int32)), .val (.int (0 : Int32)), .val (.int v54), .val (.ref b61), .unset, .unset, .unset] [(.int (15 : Int32)), (.int q2)]) (fun t k => XS.bipush X81.here hx rfl (hb hby at_96) k) ?_
        refine own_go (mkF m 99 #[.val (.int q1), .val (.int q2), .val (.int q3), .val (.int q4), .val (.int v3), .val (.int (1 : Int32)), .val (.int (0 : Int32)), .val (.int v54), .val (.ref b61), .unset, .unset, .unset] [(.int (q2 &&& (15 : Int32)))]) (fun t k => XS.iand X81.here hx rfl (hb hby at_98) rfl k) ?_
        generalize hv98 : (q2 &&& (15 : Int32)) = v98
        have f98 : v98.toInt = q2.toInt % 16 := by rw [← hv98]; exact c_mask q2 (15 : Int32) 4 (by decide) (by decide)
        have r98 := rng32 v98
        refine own_go (mkF m 100 #[.val (.int q1), .val (.int q2), .val (.int q3), .val (.int q4), .val (.int v3), .val (.int (1 : Int32)), .val (.int (0 : Int32)), .val (.int v54), .val (.ref b61), .unset, .unset, .unset] [(.int (1 : Int32)), (.int v98)]) (fun t k => XS.iconst X81.here hx rfl (hb hby at_99) k) ?_
        refine own_go (mkF m 101 #[.val (.int q1), .val (.int q2), .val (.int q3), .val (.int q4), .val (.int v3), .val (.int (1 : Int32)), .val (.int (0 : Int32)), .val (.int v54), .val (.ref b61), .unset, .unset, .unset] [(.int (v98 - (1 : Int32)))]) (fun t k => XS.isub X81.here hx rfl (hb hby at_100) rfl k) ?_
        generalize hv100 : (v98 - (1 : Int32)) = v100
        have f100 : (v100.toInt - (v98.toInt - 1)) % 4294967296 = 0 := by rw [← hv100]; exact c_isub v98 (1 : Int32)
        have r100 := rng32 v100
        refine own_go (mkF m 103 #[.val (.int q1), .val (.int q2), .val (.int q3), .val (.int q4), .val (.int v3), .val (.int (1 : Int32)), .val (.int (0 : Int32)), .val (.int v54), .val (.ref b61), .val (.int v100), .unset, .unset] []) (fun t k => XS.istore X81.here hx rfl (hb hby at_101) rfl (l' := #[.val (.int q1), .val (.int q2), .val (.int q3), .val (.int q4), .val (.int v3), .val (.int (1 : Int32)), .val (.int (0 : Int32)), .val (.int v54), .val (.ref b61), .val (.int v100), .unset, .unset]) rfl k) ?_
        refine own_go (mkF m 105 #[.val (.int q1), .val (.int q2), .val (.int q3), .val (.int q4), .val (.int v3), .val (.int (1 : Int32)), .val (.int (0 : Int32)), .val (.int v54), .val (.ref b61), .val (.int v100), .unset, .unset] [(.ref b61)]) (fun t k => XS.aload X81.here hx rfl (hb hby at_103) rfl rfl k) ?_
        refine own_go (mkF m 106 #[.val (.int q1), .val (.int q2), .val (.int q3), .val (.int q4), .val (.int v3), .val (.int (1 : Int32)), .val (.int (0 : Int32)), .val (.int v54), .val (.ref b61), .val (.int v100), .unset, .unset] [(.int q4), (.ref b61)]) (fun t k => XS.iloadN X81.here hx rfl (hb hby at_105) rfl k) ?_
        refine own_callV X81 hx hZ (y := (⟨"com/example/chronoquorum/chronoquorum/LiveNodes", "positionOf", "(I)I"⟩ : MethodName)) hown (hw _ (List.mem_of_getElem? (i := 14) rfl)) (hw _ (List.mem_of_getElem? (i := 15) rfl)) (hw _ (List.mem_of_getElem? (i := 17) rfl)) (hw _ (List.mem_of_getElem? (i := 16) rfl)) (hw _ (List.mem_of_getElem? (i := 2) rfl)) (hw _ (List.mem_of_getElem? (i := 18) rfl)) (by decide) e81 b61 E81 (rm4 l Z a0 hw [] b61 q4 ap la nP P81 h81 n0 Z81 E81 Fp81 Fl81 Ap81 (by omega) ) 0 (by decide) (by decide) (by decide) (by decide) (g := (mkF m 106 #[.val (.int q1), .val (.int q2), .val (.int q3), .val (.int q4), .val (.int v3), .val (.int (1 : Int32)), .val (.int (0 : Int32)), .val (.int v54), .val (.ref b61), .val (.int v100), .unset, .unset] [(.int q4), (.ref b61)])) rfl (by rw [hml]; rfl) [(.int q4)] [] (lenOf pd0_1 rfl) rfl rfl (by show 2 * 0 + _ ≤ _; exact Nat.le_of_eq rfl) (hb hby at_106) ?_
        intro rv106 T106 h106 L106 X106 e106 hQ106
        obtain ⟨⟨rp106, rfl, hr106⟩, NQ106, eq106⟩ := hQ106
        rw [eq106] at e106
        have rr106 := rng32 rp106
        have N106 := Fr.app N81 NQ106
        show own_Ends p e below s room_1.cells room_1.slots (Q0 Z q1 q2 q3 q4 h0 n0) T106 (mkF m 109 #[.val (.int q1), .val (.int q2), .val (.int q3), .val (.int q4), .val (.int v3), .val (.int (1 : Int32)), .val (.int (0 : Int32)), .val (.int v54), .val (.ref b61), .val (.int v100), .unset, .unset] [(.int rp106)])
        refine own_go (mkF m 110 #[.val (.int q1), .val (.int q2), .val (.int q3), .val (.int q4), .val (.int v3), .val (.int (1 : Int32)), .val (.int (0 : Int32)), .val (.int v54), .val (.ref b61), .val (.int v100), .unset, .unset] [(.int q4), (.int rp106)]) (fun t k => XS.iloadN X106.here hx rfl (hb hby at_109) rfl k) ?_
        refine own_go (mkF m 112 #[.val (.int q1), .val (.int q2), .val (.int q3), .val (.int q4), .val (.int v3), .val (.int (1 : Int32)), .val (.int (0 : Int32)), .val (.int v54), .val (.ref b61), .val (.int v100), .unset, .unset] [(.int v3), (.int q4), (.int rp106)]) (fun t k => XS.iload X106.here hx rfl (hb hby at_110) rfl k) ?_
        refine own_go (mkF m 114 #[.val (.int q1), .val (.int q2), .val (.int q3), .val (.int q4), .val (.int v3), .val (.int (1 : Int32)), .val (.int (0 : Int32)), .val (.int v54), .val (.ref b61), .val (.int v100), .unset, .unset] [(.int (1 : Int32)), (.int v3), (.int q4), (.int rp106)]) (fun t k => XS.iload X106.here hx rfl (hb hby at_112) rfl k) ?_
        refine own_go (mkF m 116 #[.val (.int q1), .val (.int q2), .val (.int q3), .val (.int q4), .val (.int v3), .val (.int (1 : Int32)), .val (.int (0 : Int32)), .val (.int v54), .val (.ref b61), .val (.int v100), .unset, .unset] [(.int v54), (.int (1 : Int32)), (.int v3), (.int q4), (.int rp106)]) (fun t k => XS.iload X106.here hx rfl (hb hby at_114) rfl k) ?_
        refine own_go (mkF m 118 #[.val (.int q1), .val (.int q2), .val (.int q3), .val (.int q4), .val (.int v3), .val (.int (1 : Int32)), .val (.int (0 : Int32)), .val (.int v54), .val (.ref b61), .val (.int v100), .unset, .unset] [(.int (0 : Int32)), (.int v54), (.int (1 : Int32)), (.int v3), (.int q4), (.int rp106)]) (fun t k => XS.iload X106.here hx rfl (hb hby at_116) rfl k) ?_
        have lt118_2 : (1 : Int32).toInt = 1 := rfl
        have lt118_4 : (0 : Int32).toInt = 0 := rfl
        refine own_callS X106 hx hZ (y := (⟨"com/example/chronoquorum/chronoquorum/LiveNodesPositionOfPinLaw", "expected", "(IIZIZ)I"⟩ : MethodName)) hown (hw _ (List.mem_of_getElem? (i := 21) rfl)) (hw _ (List.mem_of_getElem? (i := 22) rfl)) (hw _ (List.mem_of_getElem? (i := 23) rfl)) (hw _ (List.mem_of_getElem? (i := 24) rfl)) (by decide) e106 (rmE l Z a0 hw [] q4 v3 (1 : Int32) v54 (0 : Int32) h81 n0 Z81 (by omega)) 1 (by decide) (by decide) (by decide) (by decide) (g := (mkF m 118 #[.val (.int q1), .val (.int q2), .val (.int q3), .val (.int q4), .val (.int v3), .val (.int (1 : Int32)), .val (.int (0 : Int32)), .val (.int v54), .val (.ref b61), .val (.int v100), .unset, .unset] [(.int (0 : Int32)), (.int v54), (.int (1 : Int32)), (.int v3), (.int q4), (.int rp106)])) rfl (by rw [hml]; rfl) [(.int q4), (.int v3), (.int (1 : Int32)), (.int v54), (.int (0 : Int32))] [(.int rp106)] (lenOf pd0_2 rfl) rfl rfl (by show 2 * 0 + _ ≤ _; exact Nat.le_of_eq rfl) (hb hby at_118) ?_
        intro rv118 T118 h118 L118 X118 e118 hQ118
        obtain ⟨⟨re118, rfl, hr118⟩, NQ118, eq118⟩ := hQ118
        rw [eq118] at e118
        have N118 := Fr.app N106 NQ118
        show own_Ends p e below s room_1.cells room_1.slots (Q0 Z q1 q2 q3 q4 h0 n0) T118 (mkF m 121 #[.val (.int q1), .val (.int q2), .val (.int q3), .val (.int q4), .val (.int v3), .val (.int (1 : Int32)), .val (.int (0 : Int32)), .val (.int v54), .val (.ref b61), .val (.int v100), .unset, .unset] [(.int re118), (.int rp106)])
        have c121 : rp106.toInt = re118.toInt := own_pos0 hr106 hr118 PX81 (by omega)
        refine own_go (mkF m 124 #[.val (.int q1), .val (.int q2), .val (.int q3), .val (.int q4), .val (.int v3), .val (.int (1 : Int32)), .val (.int (0 : Int32)), .val (.int v54), .val (.ref b61), .val (.int v100), .unset, .unset] []) (fun t k => XS.icmpNo X118.here hx rfl (hb hby at_121) rfl (own_icF (cd := .ne) (fun q => q c121)) k) ?_
        refine own_go (mkF m 125 #[.val (.int q1), .val (.int q2), .val (.int q3), .val (.int q4), .val (.int v3), .val (.int (1 : Int32)), .val (.int (0 : Int32)), .val (.int v54), .val (.ref b61), .val (.int v100), .unset, .unset] [(.int (1 : Int32))]) (fun t k => XS.iconst X118.here hx rfl (hb hby at_124) k) ?_
        refine own_go (mkF m 129 #[.val (.int q1), .val (.int q2), .val (.int q3), .val (.int q4), .val (.int v3), .val (.int (1 : Int32)), .val (.int (0 : Int32)), .val (.int v54), .val (.ref b61), .val (.int v100), .unset, .unset] [(.int (1 : Int32))]) (fun t k => XS.goto X118.here hx rfl (pc0 := 125) (pc' := 129) rfl (hb hby at_125) (by decide) (by decide) k) ?_
        refine own_go (mkF m 131 #[.val (.int q1), .val (.int q2), .val (.int q3), .val (.int q4), .val (.int v3), .val (.int (1 : Int32)), .val (.int (0 : Int32)), .val (.int v54), .val (.ref b61), .val (.int v100), .val (.int (1 : Int32)), .unset] []) (fun t k => XS.istore X118.here hx rfl (hb hby at_129) rfl (l' := #[.val (.int q1), .val (.int q2), .val (.int q3), .val (.int q4), .val (.int v3), .val (.int (1 : Int32)), .val (.int (0 : Int32)), .val (.int v54), .val (.ref b61), .val (.int v100), .val (.int (1 : Int32)), .unset]) rfl k) ?_
        refine own_go (mkF m 133 #[.val (.int q1), .val (.int q2), .val (.int q3), .val (.int q4), .val (.int v3), .val (.int (1 : Int32)), .val (.int (0 : Int32)), .val (.int v54), .val (.ref b61), .val (.int v100), .val (.int (1 : Int32)), .unset] [(.ref b61)]) (fun t k => XS.aload X118.here hx rfl (hb hby at_131) rfl rfl k) ?_
        refine own_go (mkF m 135 #[.val (.int q1), .val (.int q2), .val (.int q3), .val (.int q4), .val (.int v3), .val (.int (1 : Int32)), .val (.int (0 : Int32)), .val (.int v54), .val (.ref b61), .val (.int v100), .val (.int (1 : Int32)), .unset] [(.int v100), (.ref b61)]) (fun t k => XS.iload X118.here hx rfl (hb hby at_133) rfl k) ?_
        refine own_callV X118 hx hZ (y := (⟨"com/example/chronoquorum/chronoquorum/LiveNodes", "positionOf", "(I)I"⟩ : MethodName)) hown (hw _ (List.mem_of_getElem? (i := 14) rfl)) (hw _ (List.mem_of_getElem? (i := 15) rfl)) (hw _ (List.mem_of_getElem? (i := 17) rfl)) (hw _ (List.mem_of_getElem? (i := 16) rfl)) (hw _ (List.mem_of_getElem? (i := 2) rfl)) (hw _ (List.mem_of_getElem? (i := 18) rfl)) (by decide) e118 b61 E81 (rm4 l Z a0 hw [] b61 v100 ap la nP P81 h81 n0 Z81 E81 Fp81 Fl81 Ap81 (by omega) ) 0 (by decide) (by decide) (by decide) (by decide) (g := (mkF m 135 #[.val (.int q1), .val (.int q2), .val (.int q3), .val (.int q4), .val (.int v3), .val (.int (1 : Int32)), .val (.int (0 : Int32)), .val (.int v54), .val (.ref b61), .val (.int v100), .val (.int (1 : Int32)), .unset] [(.int v100), (.ref b61)])) rfl (by rw [hml]; rfl) [(.int v100)] [] (lenOf pd0_1 rfl) rfl rfl (by show 2 * 0 + _ ≤ _; exact Nat.le_of_eq rfl) (hb hby at_135) ?_
        intro rv135 T135 h135 L135 X135 e135 hQ135
        obtain ⟨⟨rp135, rfl, hr135⟩, NQ135, eq135⟩ := hQ135
        rw [eq135] at e135
        have rr135 := rng32 rp135
        have N135 := Fr.app N118 NQ135
        show own_Ends p e below s room_1.cells room_1.slots (Q0 Z q1 q2 q3 q4 h0 n0) T135 (mkF m 138 #[.val (.int q1), .val (.int q2), .val (.int q3), .val (.int q4), .val (.int v3), .val (.int (1 : Int32)), .val (.int (0 : Int32)), .val (.int v54), .val (.ref b61), .val (.int v100), .val (.int (1 : Int32)), .unset] [(.int rp135)])
        refine own_go (mkF m 140 #[.val (.int q1), .val (.int q2), .val (.int q3), .val (.int q4), .val (.int v3), .val (.int (1 : Int32)), .val (.int (0 : Int32)), .val (.int v54), .val (.ref b61), .val (.int v100), .val (.int (1 : Int32)), .unset] [(.int v100), (.int rp135)]) (fun t k => XS.iload X135.here hx rfl (hb hby at_138) rfl k) ?_
        refine own_go (mkF m 142 #[.val (.int q1), .val (.int q2), .val (.int q3), .val (.int q4), .val (.int v3), .val (.int (1 : Int32)), .val (.int (0 : Int32)), .val (.int v54), .val (.ref b61), .val (.int v100), .val (.int (1 : Int32)), .unset] [(.int v3), (.int v100), (.int rp135)]) (fun t k => XS.iload X135.here hx rfl (hb hby at_140) rfl k) ?_
        refine own_go (mkF m 144 #[.val (.int q1), .val (.int q2), .val (.int q3), .val (.int q4), .val (.int v3), .val (.int (1 : Int32)), .val (.int (0 : Int32)), .val (.int v54), .val (.ref b61), .val (.int v100), .val (.int (1 : Int32)), .unset] [(.int (1 : Int32)), (.int v3), (.int v100), (.int rp135)]) (fun t k => XS.iload X135.here hx rfl (hb hby at_142) rfl k) ?_
        refine own_go (mkF m 146 #[.val (.int q1), .val (.int q2), .val (.int q3), .val (.int q4), .val (.int v3), .val (.int (1 : Int32)), .val (.int (0 : Int32)), .val (.int v54), .val (.ref b61), .val (.int v100), .val (.int (1 : Int32)), .unset] [(.int v54), (.int (1 : Int32)), (.int v3), (.int v100), (.int rp135)]) (fun t k => XS.iload X135.here hx rfl (hb hby at_144) rfl k) ?_
        refine own_go (mkF m 148 #[.val (.int q1), .val (.int q2), .val (.int q3), .val (.int q4), .val (.int v3), .val (.int (1 : Int32)), .val (.int (0 : Int32)), .val (.int v54), .val (.ref b61), .val (.int v100), .val (.int (1 : Int32)), .unset] [(.int (0 : Int32)), (.int v54), (.int (1 : Int32)), (.int v3), (.int v100), (.int rp135)]) (fun t k => XS.iload X135.here hx rfl (hb hby at_146) rfl k) ?_
        have lt148_2 : (1 : Int32).toInt = 1 := rfl
        have lt148_4 : (0 : Int32).toInt = 0 := rfl
        refine own_callS X135 hx hZ (y := (⟨"com/example/chronoquorum/chronoquorum/LiveNodesPositionOfPinLaw", "expected", "(IIZIZ)I"⟩ : MethodName)) hown (hw _ (List.mem_of_getElem? (i := 21) rfl)) (hw _ (List.mem_of_getElem? (i := 22) rfl)) (hw _ (List.mem_of_getElem? (i := 23) rfl)) (hw _ (List.mem_of_getElem? (i := 24) rfl)) (by decide) e135 (rmE l Z a0 hw [] v100 v3 (1 : Int32) v54 (0 : Int32) h81 n0 Z81 (by omega)) 1 (by decide) (by decide) (by decide) (by decide) (g := (mkF m 148 #[.val (.int q1), .val (.int q2), .val (.int q3), .val (.int q4), .val (.int v3), .val (.int (1 : Int32)), .val (.int (0 : Int32)), .val (.int v54), .val (.ref b61), .val (.int v100), .val (.int (1 : Int32)), .unset] [(.int (0 : Int32)), (.int v54), (.int (1 : Int32)), (.int v3), (.int v100), (.int rp135)])) rfl (by rw [hml]; rfl) [(.int v100), (.int v3), (.int (1 : Int32)), (.int v54), (.int (0 : Int32))] [(.int rp135)] (lenOf pd0_2 rfl) rfl rfl (by show 2 * 0 + _ ≤ _; exact Nat.le_of_eq rfl) (hb hby at_148) ?_
        intro rv148 T148 h148 L148 X148 e148 hQ148
        obtain ⟨⟨re148, rfl, hr148⟩, NQ148, eq148⟩ := hQ148
        rw [eq148] at e148
        have N148 := Fr.app N135 NQ148
        show own_Ends p e below s room_1.cells room_1.slots (Q0 Z q1 q2 q3 q4 h0 n0) T148 (mkF m 151 #[.val (.int q1), .val (.int q2), .val (.int q3), .val (.int q4), .val (.int v3), .val (.int (1 : Int32)), .val (.int (0 : Int32)), .val (.int v54), .val (.ref b61), .val (.int v100), .val (.int (1 : Int32)), .unset] [(.int re148), (.int rp135)])
        have c151 : rp135.toInt = re148.toInt := own_pos0 hr135 hr148 PX81 (by omega)
        refine own_go (mkF m 154 #[.val (.int q1), .val (.int q2), .val (.int q3), .val (.int q4), .val (.int v3), .val (.int (1 : Int32)), .val (.int (0 : Int32)), .val (.int v54), .val (.ref b61), .val (.int v100), .val (.int (1 : Int32)), .unset] []) (fun t k => XS.icmpNo X148.here hx rfl (hb hby at_151) rfl (own_icF (cd := .ne) (fun q => q c151)) k) ?_
        refine own_go (mkF m 155 #[.val (.int q1), .val (.int q2), .val (.int q3), .val (.int q4), .val (.int v3), .val (.int (1 : Int32)), .val (.int (0 : Int32)), .val (.int v54), .val (.ref b61), .val (.int v100), .val (.int (1 : Int32)), .unset] [(.int (1 : Int32))]) (fun t k => XS.iconst X148.here hx rfl (hb hby at_154) k) ?_
        refine own_go (mkF m 159 #[.val (.int q1), .val (.int q2), .val (.int q3), .val (.int q4), .val (.int v3), .val (.int (1 : Int32)), .val (.int (0 : Int32)), .val (.int v54), .val (.ref b61), .val (.int v100), .val (.int (1 : Int32)), .unset] [(.int (1 : Int32))]) (fun t k => XS.goto X148.here hx rfl (pc0 := 155) (pc' := 159) rfl (hb hby at_155) (by decide) (by decide) k) ?_
        refine own_go (mkF m 161 #[.val (.int q1), .val (.int q2), .val (.int q3), .val (.int q4), .val (.int v3), .val (.int (1 : Int32)), .val (.int (0 : Int32)), .val (.int v54), .val (.ref b61), .val (.int v100), .val (.int (1 : Int32)), .val (.int (1 : Int32))] []) (fun t k => XS.istore X148.here hx rfl (hb hby at_159) rfl (l' := #[.val (.int q1), .val (.int q2), .val (.int q3), .val (.int q4), .val (.int v3), .val (.int (1 : Int32)), .val (.int (0 : Int32)), .val (.int v54), .val (.ref b61), .val (.int v100), .val (.int (1 : Int32)), .val (.int (1 : Int32))]) rfl k) ?_
        refine own_go (mkF m 163 #[.val (.int q1), .val (.int q2), .val (.int q3), .val (.int q4), .val (.int v3), .val (.int (1 : Int32)), .val (.int (0 : Int32)), .val (.int v54), .val (.ref b61), .val (.int v100), .val (.int (1 : Int32)), .val (.int (1 : Int32))] [(.int (1 : Int32))]) (fun t k => XS.iload X148.here hx rfl (hb hby at_161) rfl k) ?_
        refine own_go (mkF m 166 #[.val (.int q1), .val (.int q2), .val (.int q3), .val (.int q4), .val (.int v3), .val (.int (1 : Int32)), .val (.int (0 : Int32)), .val (.int v54), .val (.ref b61), .val (.int v100), .val (.int (1 : Int32)), .val (.int (1 : Int32))] []) (fun t k => XS.ifNo X148.here hx rfl (hb hby at_163) rfl (by decide) k) ?_
        refine own_go (mkF m 168 #[.val (.int q1), .val (.int q2), .val (.int q3), .val (.int q4), .val (.int v3), .val (.int (1 : Int32)), .val (.int (0 : Int32)), .val (.int v54), .val (.ref b61), .val (.int v100), .val (.int (1 : Int32)), .val (.int (1 : Int32))] [(.int (1 : Int32))]) (fun t k => XS.iload X148.here hx rfl (hb hby at_166) rfl k) ?_
        refine own_go (mkF m 171 #[.val (.int q1), .val (.int q2), .val (.int q3), .val (.int q4), .val (.int v3), .val (.int (1 : Int32)), .val (.int (0 : Int32)), .val (.int v54), .val (.ref b61), .val (.int v100), .val (.int (1 : Int32)), .val (.int (1 : Int32))] []) (fun t k => XS.ifNo X148.here hx rfl (hb hby at_168) rfl (by decide) k) ?_
        refine own_go (mkF m 172 #[.val (.int q1), .val (.int q2), .val (.int q3), .val (.int q4), .val (.int v3), .val (.int (1 : Int32)), .val (.int (0 : Int32)), .val (.int v54), .val (.ref b61), .val (.int v100), .val (.int (1 : Int32)), .val (.int (1 : Int32))] [(.int (1 : Int32))]) (fun t k => XS.iconst X148.here hx rfl (hb hby at_171) k) ?_
        refine own_go (mkF m 176 #[.val (.int q1), .val (.int q2), .val (.int q3), .val (.int q4), .val (.int v3), .val (.int (1 : Int32)), .val (.int (0 : Int32)), .val (.int v54), .val (.ref b61), .val (.int v100), .val (.int (1 : Int32)), .val (.int (1 : Int32))] [(.int (1 : Int32))]) (fun t k => XS.goto X148.here hx rfl (pc0 := 172) (pc' := 176) rfl (hb hby at_172) (by decide) (by decide) k) ?_
        refine own_retI X148 hx hlk hret (by simp) rfl (hb hby at_176) (by decide) (by decide) ?_
        rw [e148]
        exact ⟨rfl, N148⟩
      · skip
        refine own_go (mkF m 34 #[.val (.int q1), .val (.int q2), .val (.int q3), .val (.int q4), .val (.int v3), .val (.int (1 : Int32)), .unset, .unset, .unset, .unset, .unset, .unset] []) (fun t k => XS.ifNo X0.here hx rfl (hb hby at_31) rfl (own_zF (cd := .eq) c31) k) ?_
        refine own_go (mkF m 35 #[.val (.int q1), .val (.int q2), .val (.int q3), .val (.int q4), .val (.int v3), .val (.int (1 : Int32)), .unset, .unset, .unset, .unset, .unset, .unset] [(.int (1 : Int32))]) (fun t k => XS.iconst X0.here hx rfl (hb hby at_34) k) ?_
        refine own_go (mkF m 39 #[.val (.int q1), .val (.int q2), .val (.int q3), .val (.int q4), .val (.int v3), .val (.int (1 : Int32)), .unset, .unset, .unset, .unset, .unset, .unset] [(.int (1 : Int32))]) (fun t k => XS.goto X0.here hx rfl (pc0 := 35) (pc' := 39) rfl (hb hby at_35) (by decide) (by decide) k) ?_
        refine own_go (mkF m 41 #[.val (.int q1), .val (.int q2), .val (.int q3), .val (.int q4), .val (.int v3), .val (.int (1 : Int32)), .val (.int (1 : Int32)), .unset, .unset, .unset, .unset, .unset] []) (fun t k => XS.istore X0.here hx rfl (hb hby at_39) rfl (l' := #[.val (.int q1), .val (.int q2), .val (.int q3), .val (.int q4), .val (.int v3), .val (.int (1 : Int32)), .val (.int (1 : Int32)), .unset, .unset, .unset, .unset, .unset]) rfl k) ?_
        refine own_go (mkF m 43 #[.val (.int q1), .val (.int q2), .val (.int q3), .val (.int q4), .val (.int v3), .val (.int (1 : Int32)), .val (.int (1 : Int32)), .unset, .unset, .unset, .unset, .unset] [(.int v3)]) (fun t k => XS.iload X0.here hx rfl (hb hby at_41) rfl k) ?_
        have c43 : ¬ (v3.toInt ≤ 0) := by omega
        refine own_go (mkF m 46 #[.val (.int q1), .val (.int q2), .val (.int q3), .val (.int q4), .val (.int v3), .val (.int (1 : Int32)), .val (.int (1 : Int32)), .unset, .unset, .unset, .unset, .unset] []) (fun t k => XS.ifNo X0.here hx rfl (hb hby at_43) rfl (own_zF (cd := .le) c43) k) ?_
        refine own_go (mkF m 47 #[.val (.int q1), .val (.int q2), .val (.int q3), .val (.int q4), .val (.int v3), .val (.int (1 : Int32)), .val (.int (1 : Int32)), .unset, .unset, .unset, .unset, .unset] [(.int q3)]) (fun t k => XS.iloadN X0.here hx rfl (hb hby at_46) rfl k) ?_
        refine own_go (mkF m 49 #[.val (.int q1), .val (.int q2), .val (.int q3), .val (.int q4), .val (.int v3), .val (.int (1 : Int32)), .val (.int (1 : Int32)), .unset, .unset, .unset, .unset, .unset] [(.int (2147483647 : Int32)), (.int q3)]) (fun t k => X0.ldcInt hx hown (mvT hZ (hw _ (List.mem_of_getElem? (i := 25) rfl))) (g := (mkF m 47 #[.val (.int q1), .val (.int q2), .val (.int q3), .val (.int q4), .val (.int v3), .val (.int (1 : Int32)), .val (.int (1 : Int32)), .unset, .unset, .unset, .unset, .unset] [(.int q3)])) rfl (hb hby at_47) _ k) ?_
        refine own_go (mkF m 50 #[.val (.int q1), .val (.int q2), .val (.int q3), .val (.int q4), .val (.int v3), .val (.int (1 : Int32)), .val (.int (1 : Int32)), .unset, .unset, .unset, .unset, .unset] [(.int (q3 &&& (2147483647 : Int32)))]) (fun t k => XS.iand X0.here hx rfl (hb hby at_49) rfl k) ?_
        generalize hv49 : (q3 &&& (2147483647 : Int32)) = v49
        have f49 : v49.toInt = q3.toInt % 2147483648 := by rw [← hv49]; exact c_mask q3 (2147483647 : Int32) 31 (by decide) (by decide)
        have r49 := rng32 v49
        refine own_go (mkF m 52 #[.val (.int q1), .val (.int q2), .val (.int q3), .val (.int q4), .val (.int v3), .val (.int (1 : Int32)), .val (.int (1 : Int32)), .unset, .unset, .unset, .unset, .unset] [(.int v3), (.int v49)]) (fun t k => XS.iload X0.here hx rfl (hb hby at_50) rfl k) ?_
        refine own_go (mkF m 53 #[.val (.int q1), .val (.int q2), .val (.int q3), .val (.int q4), .val (.int v3), .val (.int (1 : Int32)), .val (.int (1 : Int32)), .unset, .unset, .unset, .unset, .unset] [(.int (v49 % v3))]) (fun t k => Jvm.RoadKit.iremM X0 hx rfl (hb hby at_52) rfl (own_nz32 (by omega)) k) ?_
        generalize hv52 : (v49 % v3) = v52
        have f52 : 0 ≤ v49.toInt → 0 < v3.toInt → 0 ≤ v52.toInt ∧ v52.toInt < v3.toInt ∧ v52.toInt ≤ v49.toInt := by rw [← hv52]; exact own_iremV v49 v3
        have r52 := rng32 v52
        refine own_go (mkF m 54 #[.val (.int q1), .val (.int q2), .val (.int q3), .val (.int q4), .val (.int v3), .val (.int (1 : Int32)), .val (.int (1 : Int32)), .unset, .unset, .unset, .unset, .unset] [(.int (1 : Int32)), (.int v52)]) (fun t k => XS.iconst X0.here hx rfl (hb hby at_53) k) ?_
        refine own_go (mkF m 55 #[.val (.int q1), .val (.int q2), .val (.int q3), .val (.int q4), .val (.int v3), .val (.int (1 : Int32)), .val (.int (1 : Int32)), .unset, .unset, .unset, .unset, .unset] [(.int (v52 + (1 : Int32)))]) (fun t k => XS.iadd X0.here hx rfl (hb hby at_54) rfl k) ?_
        generalize hv54 : (v52 + (1 : Int32)) = v54
        have f54 : (v54.toInt - (v52.toInt + 1)) % 4294967296 = 0 := by rw [← hv54]; exact c_iadd v52 (1 : Int32)
        have r54 := rng32 v54
        have k54 : 1 ≤ v54.toInt ∧ v54.toInt ≤ v3.toInt := by omega
        clear f49 f52 f54 r49 r52 r54
        refine own_go (mkF m 59 #[.val (.int q1), .val (.int q2), .val (.int q3), .val (.int q4), .val (.int v3), .val (.int (1 : Int32)), .val (.int (1 : Int32)), .unset, .unset, .unset, .unset, .unset] [(.int v54)]) (fun t k => XS.goto X0.here hx rfl (pc0 := 55) (pc' := 59) rfl (hb hby at_55) (by decide) (by decide) k) ?_
        refine own_go (mkF m 61 #[.val (.int q1), .val (.int q2), .val (.int q3), .val (.int q4), .val (.int v3), .val (.int (1 : Int32)), .val (.int (1 : Int32)), .val (.int v54), .unset, .unset, .unset, .unset] []) (fun t k => XS.istore X0.here hx rfl (hb hby at_59) rfl (l' := #[.val (.int q1), .val (.int q2), .val (.int q3), .val (.int q4), .val (.int v3), .val (.int (1 : Int32)), .val (.int (1 : Int32)), .val (.int v54), .unset, .unset, .unset, .unset]) rfl k) ?_
        obtain ⟨T61, h61, X61, e61, E61, A61, D61, -, st61⟩ := newO X0 hx hZ hown (hw _ (List.mem_of_getElem? (i := 0) rfl)) (hw _ (List.mem_of_getElem? (i := 1) rfl)) (hw _ (List.mem_of_getElem? (i := 2) rfl)) e0 (g := (mkF m 61 #[.val (.int q1), .val (.int q2), .val (.int q3), .val (.int q4), .val (.int v3), .val (.int (1 : Int32)), .val (.int (1 : Int32)), .val (.int v54), .unset, .unset, .unset, .unset] [])) rfl (hb hby at_61) (by decide) (by decide)
        obtain ⟨b61, g61⟩ : ∃ z, z = h0.size := ⟨_, rfl⟩
        rw [← g61] at A61 D61 st61
        have gb61 : n0 ≤ b61 := Nat.le_trans Z0 (Nat.le_of_eq g61.symm)
        have Z0_61 : n0 ≤ h61.size := Nat.le_trans Z0 E61.1
        have F_ids_b61 : Fld Z h61 b61 "com/example/chronoquorum/chronoquorum/LiveNodes" "ids" "[I" (.null) := D61 (Or.inl (hw _ (List.mem_of_getElem? (i := 11) rfl))) (ty := (.array .int)) (by decide)
        have F_positions_b61 : Fld Z h61 b61 "com/example/chronoquorum/chronoquorum/LiveNodes" "positions" "[I" (.null) := D61 (Or.inl (hw _ (List.mem_of_getElem? (i := 13) rfl))) (ty := (.array .int)) (by decide)
        have F_lastId_b61 : Fld Z h61 b61 "com/example/chronoquorum/chronoquorum/LiveNodes" "lastId" "I" (.int (0 : Int32)) := D61 (Or.inl (hw _ (List.mem_of_getElem? (i := 20) rfl))) (ty := .int) (by decide)
        have F_size_b61 : Fld Z h61 b61 "com/example/chronoquorum/chronoquorum/LiveNodes" "size" "I" (.int (0 : Int32)) := D61 (Or.inl (hw _ (List.mem_of_getElem? (i := 37) rfl))) (ty := .int) (by decide)
        refine own_go (T' := T61) (mkF m 64 #[.val (.int q1), .val (.int q2), .val (.int q3), .val (.int q4), .val (.int v3), .val (.int (1 : Int32)), .val (.int (1 : Int32)), .val (.int v54), .unset, .unset, .unset, .unset] [(.ref b61)]) st61 ?_
        refine own_go (mkF m 65 #[.val (.int q1), .val (.int q2), .val (.int q3), .val (.int q4), .val (.int v3), .val (.int (1 : Int32)), .val (.int (1 : Int32)), .val (.int v54), .unset, .unset, .unset, .unset] [(.ref b61), (.ref b61)]) (fun t k => XS.dup X61.here hx rfl (hb hby at_64) rfl rfl k) ?_
        refine own_go (mkF m 67 #[.val (.int q1), .val (.int q2), .val (.int q3), .val (.int q4), .val (.int v3), .val (.int (1 : Int32)), .val (.int (1 : Int32)), .val (.int v54), .unset, .unset, .unset, .unset] [(.int v3), (.ref b61), (.ref b61)]) (fun t k => XS.iload X61.here hx rfl (hb hby at_65) rfl k) ?_
        refine own_callI X61 hx hZ (y := (⟨"com/example/chronoquorum/chronoquorum/LiveNodes", "<init>", "(I)V"⟩ : MethodName)) hown rfl (hw _ (List.mem_of_getElem? (i := 3) rfl)) (hw _ (List.mem_of_getElem? (i := 4) rfl)) (hw _ (List.mem_of_getElem? (i := 2) rfl)) (hw _ (List.mem_of_getElem? (i := 5) rfl)) (by decide) e61 (rm1 l Z a0 hw [] b61 v3 h61 n0 Z0_61 A61 F_ids_b61 F_positions_b61 F_lastId_b61 F_size_b61 gb61 (by omega)) 1 (by decide) (by decide) (by decide) (by decide) (g := (mkF m 67 #[.val (.int q1), .val (.int q2), .val (.int q3), .val (.int q4), .val (.int v3), .val (.int (1 : Int32)), .val (.int (1 : Int32)), .val (.int v54), .unset, .unset, .unset, .unset] [(.int v3), (.ref b61), (.ref b61)])) rfl (by rw [hml]; rfl) b61 [(.int v3)] [(.ref b61)] (lenOf pd0_0 rfl) rfl rfl (by show 2 * 0 + _ ≤ _; exact Nat.le_of_eq rfl) (hb hby at_67) ?_
        intro rv67 T67 h67 L67 X67 e67 hQ67
        obtain ⟨rfl, NQ67, KQ67, ai, ap, sz, la, nI, nP, I, P, EQ, Fi, Fp, Fs, Fl, Ai, Ap, gai, gap, ne1, ne2, ne3, hsz, hla, hnI, hnP, hini⟩ := hQ67
        have Z67 : n0 ≤ h67.size := Nat.le_trans Z0_61 KQ67.1
        have rsz := rng32 sz
        have rla := rng32 la
        have V0 : own_V sz.toInt la.toInt I P := by rw [hsz, hla]; exact own_V_start (by omega) hini
        have D0 : own_D P la.toInt 0 0 := by rw [hla]; exact own_D0 hini.2
        have N67 := Fr.app N0 NQ67
        show own_Ends p e below s room_1.cells room_1.slots (Q0 Z q1 q2 q3 q4 h0 n0) T67 (mkF m 70 #[.val (.int q1), .val (.int q2), .val (.int q3), .val (.int q4), .val (.int v3), .val (.int (1 : Int32)), .val (.int (1 : Int32)), .val (.int v54), .unset, .unset, .unset, .unset] [(.ref b61)])
        have PX0 : own_X P v3.toInt v3.toInt 0 v54.toInt 0 := own_X0 hini.2
        have r3' : 0 ≤ v3.toInt ∧ v3.toInt ≤ 7 := by omega
        clear f3
        refine own_go (mkF m 72 #[.val (.int q1), .val (.int q2), .val (.int q3), .val (.int q4), .val (.int v3), .val (.int (1 : Int32)), .val (.int (1 : Int32)), .val (.int v54), .val (.ref b61), .unset, .unset, .unset] []) (fun t k => XS.astore X67.here hx rfl (hb hby at_70) rfl rfl (l' := #[.val (.int q1), .val (.int q2), .val (.int q3), .val (.int q4), .val (.int v3), .val (.int (1 : Int32)), .val (.int (1 : Int32)), .val (.int v54), .val (.ref b61), .unset, .unset, .unset]) rfl k) ?_
        refine own_go (mkF m 74 #[.val (.int q1), .val (.int q2), .val (.int q3), .val (.int q4), .val (.int v3), .val (.int (1 : Int32)), .val (.int (1 : Int32)), .val (.int v54), .val (.ref b61), .unset, .unset, .unset] [(.int (1 : Int32))]) (fun t k => XS.iload X67.here hx rfl (hb hby at_72) rfl k) ?_
        refine own_go (mkF m 77 #[.val (.int q1), .val (.int q2), .val (.int q3), .val (.int q4), .val (.int v3), .val (.int (1 : Int32)), .val (.int (1 : Int32)), .val (.int v54), .val (.ref b61), .unset, .unset, .unset] []) (fun t k => XS.ifNo X67.here hx rfl (hb hby at_74) rfl (by decide) k) ?_
        refine own_go (mkF m 79 #[.val (.int q1), .val (.int q2), .val (.int q3), .val (.int q4), .val (.int v3), .val (.int (1 : Int32)), .val (.int (1 : Int32)), .val (.int v54), .val (.ref b61), .unset, .unset, .unset] [(.ref b61)]) (fun t k => XS.aload X67.here hx rfl (hb hby at_77) rfl rfl k) ?_
        refine own_go (mkF m 81 #[.val (.int q1), .val (.int q2), .val (.int q3), .val (.int q4), .val (.int v3), .val (.int (1 : Int32)), .val (.int (1 : Int32)), .val (.int v54), .val (.ref b61), .unset, .unset, .unset] [(.int v54), (.ref b61)]) (fun t k => XS.iload X67.here hx rfl (hb hby at_79) rfl k) ?_
        have lq81 := own_alive (x := v54.toInt) D0 (by omega) (by omega) (by omega) (by omega)
        have kq81 := V0.2.2.2 v54.toInt lq81.1 lq81.2.1 lq81.2.2
        have tq81 := V0.2.2.1 (sz.toInt - 1) (by omega) (by omega)
        refine own_callV X67 hx hZ (y := (⟨"com/example/chronoquorum/chronoquorum/LiveNodes", "leave", "(I)V"⟩ : MethodName)) hown (hw _ (List.mem_of_getElem? (i := 38) rfl)) (hw _ (List.mem_of_getElem? (i := 39) rfl)) (hw _ (List.mem_of_getElem? (i := 41) rfl)) (hw _ (List.mem_of_getElem? (i := 40) rfl)) (hw _ (List.mem_of_getElem? (i := 2) rfl)) (hw _ (List.mem_of_getElem? (i := 42) rfl)) (by decide) e67 b61 EQ (rm8 l Z a0 hw [] b61 v54 ai ap sz la nI nP I P h67 n0 Z67 EQ Fi Fp Fs Fl Ai Ap gb61 gai gap ne1 ne2 ne3 (by omega) lq81 (by omega)) 0 (by decide) (by decide) (by decide) (by decide) (g := (mkF m 81 #[.val (.int q1), .val (.int q2), .val (.int q3), .val (.int q4), .val (.int v3), .val (.int (1 : Int32)), .val (.int (1 : Int32)), .val (.int v54), .val (.ref b61), .unset, .unset, .unset] [(.int v54), (.ref b61)])) rfl (by rw [hml]; rfl) [(.int v54)] [] (lenOf pd0_0 rfl) rfl rfl (by show 2 * 0 + _ ≤ _; exact Nat.le_of_eq rfl) (hb hby at_81) ?_
        intro rv81 T81 h81 L81 X81 e81 hQ81
        obtain ⟨rfl, NQ81, KQ81, sz81, I81, P81, E81, Fi81, Fp81, Fs81, Fl81, Ai81, Ap81, hs81, hv81_⟩ := hQ81
        have Z81 : n0 ≤ h81.size := Nat.le_trans Z67 KQ81.1
        have rs81 := rng32 sz81
        have V81 : own_V sz81.toInt la.toInt I81 P81 := by rw [hs81]; exact own_V_leave V0 lq81.1 lq81.2.1 lq81.2.2 hv81_
        have lv81 := own_lv_live V0 lq81.1 lq81.2.1 lq81.2.2 hv81_
        have D81 : own_D P81 la.toInt v54.toInt 0 := own_D_l1 D0 lv81
        have N81 := Fr.app N67 NQ81
        show own_Ends p e below s room_1.cells room_1.slots (Q0 Z q1 q2 q3 q4 h0 n0) T81 (mkF m 84 #[.val (.int q1), .val (.int q2), .val (.int q3), .val (.int q4), .val (.int v3), .val (.int (1 : Int32)), .val (.int (1 : Int32)), .val (.int v54), .val (.ref b61), .unset, .unset, .unset] [])
        have PX81 : own_X P81 v3.toInt v3.toInt 1 v54.toInt 0 := own_X_leave hini (by omega) (by omega) hsz hla hv81_
        refine own_go (mkF m 86 #[.val (.int q1), .val (.int q2), .val (.int q3), .val (.int q4), .val (.int v3), .val (.int (1 : Int32)), .val (.int (1 : Int32)), .val (.int v54), .val (.ref b61), .unset, .unset, .unset] [(.int (1 : Int32))]) (fun t k => XS.iload X81.here hx rfl (hb hby at_84) rfl k) ?_
        refine own_go (mkF m 89 #[.val (.int q1), .val (.int q2), .val (.int q3), .val (.int q4), .val (.int v3), .val (.int (1 : Int32)), .val (.int (1 : Int32)), .val (.int v54), .val (.ref b61), .unset, .unset, .unset] []) (fun t k => XS.ifNo X81.here hx rfl (hb hby at_86) rfl (by decide) k) ?_
        refine own_go (mkF m 91 #[.val (.int q1), .val (.int q2), .val (.int q3), .val (.int q4), .val (.int v3), .val (.int (1 : Int32)), .val (.int (1 : Int32)), .val (.int v54), .val (.ref b61), .unset, .unset, .unset] [(.ref b61)]) (fun t k => XS.aload X81.here hx rfl (hb hby at_89) rfl rfl k) ?_
        obtain ⟨zI, hzI⟩ := own_z32 nI (by omega)
        obtain ⟨zP, hzP⟩ := own_z32 nP (by omega)
        have vj91 := V81.1
        refine own_callV X81 hx hZ (y := (⟨"com/example/chronoquorum/chronoquorum/LiveNodes", "join", "()I"⟩ : MethodName)) hown (hw _ (List.mem_of_getElem? (i := 54) rfl)) (hw _ (List.mem_of_getElem? (i := 27) rfl)) (hw _ (List.mem_of_getElem? (i := 29) rfl)) (hw _ (List.mem_of_getElem? (i := 28) rfl)) (hw _ (List.mem_of_getElem? (i := 2) rfl)) (hw _ (List.mem_of_getElem? (i := 30) rfl)) (by decide) e81 b61 E81 (rmJ l Z a0 hw [] b61 ai ap sz81 la nI nP I81 P81 zI zP h81 n0 Z81 E81 Fi81 Fp81 Fs81 Fl81 Ai81 Ap81 gb61 gai gap ne1 ne2 ne3 hzI hzP (by omega)) 0 (by decide) (by decide) (by decide) (by decide) (g := (mkF m 91 #[.val (.int q1), .val (.int q2), .val (.int q3), .val (.int q4), .val (.int v3), .val (.int (1 : Int32)), .val (.int (1 : Int32)), .val (.int v54), .val (.ref b61), .unset, .unset, .unset] [(.ref b61)])) rfl (by rw [hml]; rfl) [] [] (lenOf pd0_3 rfl) rfl rfl (by show 2 * 0 + _ ≤ _; exact Nat.le_of_eq rfl) (hb hby at_91) ?_
        intro rv91 T91 h91 L91 X91 e91 hQ91
        obtain ⟨⟨rj91, rfl, -⟩, NQ91, KQ91, ai91, ap91, sz91, la91, nI91, nP91, I91, P91, E91, Fi91, Fp91, Fs91, Fl91, Ai91, Ap91, ga91, gp91, n191, n291, n391, hs91, hl91, hnI91, hnP91, hj91⟩ := hQ91
        have Z91 : n0 ≤ h91.size := Nat.le_trans Z81 KQ91.1
        have rs91 := rng32 sz91
        have rl91 := rng32 la91
        have V91 : own_V sz91.toInt la91.toInt I91 P91 := by rw [hs91, hl91]; exact own_V_join V81 hj91
        have lv91 := own_jn_live (by omega) hj91
        have D91 : own_D P91 la91.toInt v54.toInt 0 := own_D_j D81 hl91 (by omega) (by omega) lv91
        have N91 := Fr.app N81 NQ91
        show own_Ends p e below s room_1.cells room_1.slots (Q0 Z q1 q2 q3 q4 h0 n0) T91 (mkF m 94 #[.val (.int q1), .val (.int q2), .val (.int q3), .val (.int q4), .val (.int v3), .val (.int (1 : Int32)), .val (.int (1 : Int32)), .val (.int v54), .val (.ref b61), .unset, .unset, .unset] [(.int rj91)])
        have PX91 : own_X P91 (v3.toInt + 1) v3.toInt 1 v54.toInt 1 := own_X_join PX81 (by omega) (by omega) (by rw [hs81, hsz]; rfl) hla hj91
        refine own_go (mkF m 95 #[.val (.int q1), .val (.int q2), .val (.int q3), .val (.int q4), .val (.int v3), .val (.int (1 : Int32)), .val (.int (1 : Int32)), .val (.int v54), .val (.ref b61), .unset, .unset, .unset] []) (fun t k => XS.pop X91.here hx rfl (hb hby at_94) rfl rfl k) ?_
        refine own_go (mkF m 96 #[.val (.int q1), .val (.int q2), .val (.int q3), .val (.int q4), .val (.int v3), .val (.int (1 : Int32)), .val (.int (1 : Int32)), .val (.int v54), .val (.ref b61), .unset, .unset, .unset] [(.int q2)]) (fun t k => XS.iloadN X91.here hx rfl (hb hby at_95) rfl k) ?_
        refine own_go (mkF m 98 #[.val (.int q1), .val (.int q2), .val (.int q3), .val (.int q4), .val (.int v3), .val (.int (1 : Int32)), .val (.int (1 : Int32)), .val (.int v54), .val (.ref b61), .unset, .unset, .unset] [(.int (15 : Int32)), (.int q2)]) (fun t k => XS.bipush X91.here hx rfl (hb hby at_96) k) ?_
        refine own_go (mkF m 99 #[.val (.int q1), .val (.int q2), .val (.int q3), .val (.int q4), .val (.int v3), .val (.int (1 : Int32)), .val (.int (1 : Int32)), .val (.int v54), .val (.ref b61), .unset, .unset, .unset] [(.int (q2 &&& (15 : Int32)))]) (fun t k => XS.iand X91.here hx rfl (hb hby at_98) rfl k) ?_
        generalize hv98 : (q2 &&& (15 : Int32)) = v98
        have f98 : v98.toInt = q2.toInt % 16 := by rw [← hv98]; exact c_mask q2 (15 : Int32) 4 (by decide) (by decide)
        have r98 := rng32 v98
        refine own_go (mkF m 100 #[.val (.int q1), .val (.int q2), .val (.int q3), .val (.int q4), .val (.int v3), .val (.int (1 : Int32)), .val (.int (1 : Int32)), .val (.int v54), .val (.ref b61), .unset, .unset, .unset] [(.int (1 : Int32)), (.int v98)]) (fun t k => XS.iconst X91.here hx rfl (hb hby at_99) k) ?_
        refine own_go (mkF m 101 #[.val (.int q1), .val (.int q2), .val (.int q3), .val (.int q4), .val (.int v3), .val (.int (1 : Int32)), .val (.int (1 : Int32)), .val (.int v54), .val (.ref b61), .unset, .unset, .unset] [(.int (v98 - (1 : Int32)))]) (fun t k => XS.isub X91.here hx rfl (hb hby at_100) rfl k) ?_
        generalize hv100 : (v98 - (1 : Int32)) = v100
        have f100 : (v100.toInt - (v98.toInt - 1)) % 4294967296 = 0 := by rw [← hv100]; exact c_isub v98 (1 : Int32)
        have r100 := rng32 v100
        refine own_go (mkF m 103 #[.val (.int q1), .val (.int q2), .val (.int q3), .val (.int q4), .val (.int v3), .val (.int (1 : Int32)), .val (.int (1 : Int32)), .val (.int v54), .val (.ref b61), .val (.int v100), .unset, .unset] []) (fun t k => XS.istore X91.here hx rfl (hb hby at_101) rfl (l' := #[.val (.int q1), .val (.int q2), .val (.int q3), .val (.int q4), .val (.int v3), .val (.int (1 : Int32)), .val (.int (1 : Int32)), .val (.int v54), .val (.ref b61), .val (.int v100), .unset, .unset]) rfl k) ?_
        refine own_go (mkF m 105 #[.val (.int q1), .val (.int q2), .val (.int q3), .val (.int q4), .val (.int v3), .val (.int (1 : Int32)), .val (.int (1 : Int32)), .val (.int v54), .val (.ref b61), .val (.int v100), .unset, .unset] [(.ref b61)]) (fun t k => XS.aload X91.here hx rfl (hb hby at_103) rfl rfl k) ?_
        refine own_go (mkF m 106 #[.val (.int q1), .val (.int q2), .val (.int q3), .val (.int q4), .val (.int v3), .val (.int (1 : Int32)), .val (.int (1 : Int32)), .val (.int v54), .val (.ref b61), .val (.int v100), .unset, .unset] [(.int q4), (.ref b61)]) (fun t k => XS.iloadN X91.here hx rfl (hb hby at_105) rfl k) ?_
        refine own_callV X91 hx hZ (y := (⟨"com/example/chronoquorum/chronoquorum/LiveNodes", "positionOf", "(I)I"⟩ : MethodName)) hown (hw _ (List.mem_of_getElem? (i := 14) rfl)) (hw _ (List.mem_of_getElem? (i := 15) rfl)) (hw _ (List.mem_of_getElem? (i := 17) rfl)) (hw _ (List.mem_of_getElem? (i := 16) rfl)) (hw _ (List.mem_of_getElem? (i := 2) rfl)) (hw _ (List.mem_of_getElem? (i := 18) rfl)) (by decide) e91 b61 E91 (rm4 l Z a0 hw [] b61 q4 ap91 la91 nP91 P91 h91 n0 Z91 E91 Fp91 Fl91 Ap91 (by omega) ) 0 (by decide) (by decide) (by decide) (by decide) (g := (mkF m 106 #[.val (.int q1), .val (.int q2), .val (.int q3), .val (.int q4), .val (.int v3), .val (.int (1 : Int32)), .val (.int (1 : Int32)), .val (.int v54), .val (.ref b61), .val (.int v100), .unset, .unset] [(.int q4), (.ref b61)])) rfl (by rw [hml]; rfl) [(.int q4)] [] (lenOf pd0_1 rfl) rfl rfl (by show 2 * 0 + _ ≤ _; exact Nat.le_of_eq rfl) (hb hby at_106) ?_
        intro rv106 T106 h106 L106 X106 e106 hQ106
        obtain ⟨⟨rp106, rfl, hr106⟩, NQ106, eq106⟩ := hQ106
        rw [eq106] at e106
        have rr106 := rng32 rp106
        have N106 := Fr.app N91 NQ106
        show own_Ends p e below s room_1.cells room_1.slots (Q0 Z q1 q2 q3 q4 h0 n0) T106 (mkF m 109 #[.val (.int q1), .val (.int q2), .val (.int q3), .val (.int q4), .val (.int v3), .val (.int (1 : Int32)), .val (.int (1 : Int32)), .val (.int v54), .val (.ref b61), .val (.int v100), .unset, .unset] [(.int rp106)])
        refine own_go (mkF m 110 #[.val (.int q1), .val (.int q2), .val (.int q3), .val (.int q4), .val (.int v3), .val (.int (1 : Int32)), .val (.int (1 : Int32)), .val (.int v54), .val (.ref b61), .val (.int v100), .unset, .unset] [(.int q4), (.int rp106)]) (fun t k => XS.iloadN X106.here hx rfl (hb hby at_109) rfl k) ?_
        refine own_go (mkF m 112 #[.val (.int q1), .val (.int q2), .val (.int q3), .val (.int q4), .val (.int v3), .val (.int (1 : Int32)), .val (.int (1 : Int32)), .val (.int v54), .val (.ref b61), .val (.int v100), .unset, .unset] [(.int v3), (.int q4), (.int rp106)]) (fun t k => XS.iload X106.here hx rfl (hb hby at_110) rfl k) ?_
        refine own_go (mkF m 114 #[.val (.int q1), .val (.int q2), .val (.int q3), .val (.int q4), .val (.int v3), .val (.int (1 : Int32)), .val (.int (1 : Int32)), .val (.int v54), .val (.ref b61), .val (.int v100), .unset, .unset] [(.int (1 : Int32)), (.int v3), (.int q4), (.int rp106)]) (fun t k => XS.iload X106.here hx rfl (hb hby at_112) rfl k) ?_
        refine own_go (mkF m 116 #[.val (.int q1), .val (.int q2), .val (.int q3), .val (.int q4), .val (.int v3), .val (.int (1 : Int32)), .val (.int (1 : Int32)), .val (.int v54), .val (.ref b61), .val (.int v100), .unset, .unset] [(.int v54), (.int (1 : Int32)), (.int v3), (.int q4), (.int rp106)]) (fun t k => XS.iload X106.here hx rfl (hb hby at_114) rfl k) ?_
        refine own_go (mkF m 118 #[.val (.int q1), .val (.int q2), .val (.int q3), .val (.int q4), .val (.int v3), .val (.int (1 : Int32)), .val (.int (1 : Int32)), .val (.int v54), .val (.ref b61), .val (.int v100), .unset, .unset] [(.int (1 : Int32)), (.int v54), (.int (1 : Int32)), (.int v3), (.int q4), (.int rp106)]) (fun t k => XS.iload X106.here hx rfl (hb hby at_116) rfl k) ?_
        have lt118_2 : (1 : Int32).toInt = 1 := rfl
        have lt118_4 : (1 : Int32).toInt = 1 := rfl
        refine own_callS X106 hx hZ (y := (⟨"com/example/chronoquorum/chronoquorum/LiveNodesPositionOfPinLaw", "expected", "(IIZIZ)I"⟩ : MethodName)) hown (hw _ (List.mem_of_getElem? (i := 21) rfl)) (hw _ (List.mem_of_getElem? (i := 22) rfl)) (hw _ (List.mem_of_getElem? (i := 23) rfl)) (hw _ (List.mem_of_getElem? (i := 24) rfl)) (by decide) e106 (rmE l Z a0 hw [] q4 v3 (1 : Int32) v54 (1 : Int32) h91 n0 Z91 (by omega)) 1 (by decide) (by decide) (by decide) (by decide) (g := (mkF m 118 #[.val (.int q1), .val (.int q2), .val (.int q3), .val (.int q4), .val (.int v3), .val (.int (1 : Int32)), .val (.int (1 : Int32)), .val (.int v54), .val (.ref b61), .val (.int v100), .unset, .unset] [(.int (1 : Int32)), (.int v54), (.int (1 : Int32)), (.int v3), (.int q4), (.int rp106)])) rfl (by rw [hml]; rfl) [(.int q4), (.int v3), (.int (1 : Int32)), (.int v54), (.int (1 : Int32))] [(.int rp106)] (lenOf pd0_2 rfl) rfl rfl (by show 2 * 0 + _ ≤ _; exact Nat.le_of_eq rfl) (hb hby at_118) ?_
        intro rv118 T118 h118 L118 X118 e118 hQ118
        obtain ⟨⟨re118, rfl, hr118⟩, NQ118, eq118⟩ := hQ118
        rw [eq118] at e118
        have N118 := Fr.app N106 NQ118
        show own_Ends p e below s room_1.cells room_1.slots (Q0 Z q1 q2 q3 q4 h0 n0) T118 (mkF m 121 #[.val (.int q1), .val (.int q2), .val (.int q3), .val (.int q4), .val (.int v3), .val (.int (1 : Int32)), .val (.int (1 : Int32)), .val (.int v54), .val (.ref b61), .val (.int v100), .unset, .unset] [(.int re118), (.int rp106)])
        have c121 : rp106.toInt = re118.toInt := own_pos1 hr106 hr118 PX91 (by omega)
        refine own_go (mkF m 124 #[.val (.int q1), .val (.int q2), .val (.int q3), .val (.int q4), .val (.int v3), .val (.int (1 : Int32)), .val (.int (1 : Int32)), .val (.int v54), .val (.ref b61), .val (.int v100), .unset, .unset] []) (fun t k => XS.icmpNo X118.here hx rfl (hb hby at_121) rfl (own_icF (cd := .ne) (fun q => q c121)) k) ?_
        refine own_go (mkF m 125 #[.val (.int q1), .val (.int q2), .val (.int q3), .val (.int q4), .val (.int v3), .val (.int (1 : Int32)), .val (.int (1 : Int32)), .val (.int v54), .val (.ref b61), .val (.int v100), .unset, .unset] [(.int (1 : Int32))]) (fun t k => XS.iconst X118.here hx rfl (hb hby at_124) k) ?_
        refine own_go (mkF m 129 #[.val (.int q1), .val (.int q2), .val (.int q3), .val (.int q4), .val (.int v3), .val (.int (1 : Int32)), .val (.int (1 : Int32)), .val (.int v54), .val (.ref b61), .val (.int v100), .unset, .unset] [(.int (1 : Int32))]) (fun t k => XS.goto X118.here hx rfl (pc0 := 125) (pc' := 129) rfl (hb hby at_125) (by decide) (by decide) k) ?_
        refine own_go (mkF m 131 #[.val (.int q1), .val (.int q2), .val (.int q3), .val (.int q4), .val (.int v3), .val (.int (1 : Int32)), .val (.int (1 : Int32)), .val (.int v54), .val (.ref b61), .val (.int v100), .val (.int (1 : Int32)), .unset] []) (fun t k => XS.istore X118.here hx rfl (hb hby at_129) rfl (l' := #[.val (.int q1), .val (.int q2), .val (.int q3), .val (.int q4), .val (.int v3), .val (.int (1 : Int32)), .val (.int (1 : Int32)), .val (.int v54), .val (.ref b61), .val (.int v100), .val (.int (1 : Int32)), .unset]) rfl k) ?_
        refine own_go (mkF m 133 #[.val (.int q1), .val (.int q2), .val (.int q3), .val (.int q4), .val (.int v3), .val (.int (1 : Int32)), .val (.int (1 : Int32)), .val (.int v54), .val (.ref b61), .val (.int v100), .val (.int (1 : Int32)), .unset] [(.ref b61)]) (fun t k => XS.aload X118.here hx rfl (hb hby at_131) rfl rfl k) ?_
        refine own_go (mkF m 135 #[.val (.int q1), .val (.int q2), .val (.int q3), .val (.int q4), .val (.int v3), .val (.int (1 : Int32)), .val (.int (1 : Int32)), .val (.int v54), .val (.ref b61), .val (.int v100), .val (.int (1 : Int32)), .unset] [(.int v100), (.ref b61)]) (fun t k => XS.iload X118.here hx rfl (hb hby at_133) rfl k) ?_
        refine own_callV X118 hx hZ (y := (⟨"com/example/chronoquorum/chronoquorum/LiveNodes", "positionOf", "(I)I"⟩ : MethodName)) hown (hw _ (List.mem_of_getElem? (i := 14) rfl)) (hw _ (List.mem_of_getElem? (i := 15) rfl)) (hw _ (List.mem_of_getElem? (i := 17) rfl)) (hw _ (List.mem_of_getElem? (i := 16) rfl)) (hw _ (List.mem_of_getElem? (i := 2) rfl)) (hw _ (List.mem_of_getElem? (i := 18) rfl)) (by decide) e118 b61 E91 (rm4 l Z a0 hw [] b61 v100 ap91 la91 nP91 P91 h91 n0 Z91 E91 Fp91 Fl91 Ap91 (by omega) ) 0 (by decide) (by decide) (by decide) (by decide) (g := (mkF m 135 #[.val (.int q1), .val (.int q2), .val (.int q3), .val (.int q4), .val (.int v3), .val (.int (1 : Int32)), .val (.int (1 : Int32)), .val (.int v54), .val (.ref b61), .val (.int v100), .val (.int (1 : Int32)), .unset] [(.int v100), (.ref b61)])) rfl (by rw [hml]; rfl) [(.int v100)] [] (lenOf pd0_1 rfl) rfl rfl (by show 2 * 0 + _ ≤ _; exact Nat.le_of_eq rfl) (hb hby at_135) ?_
        intro rv135 T135 h135 L135 X135 e135 hQ135
        obtain ⟨⟨rp135, rfl, hr135⟩, NQ135, eq135⟩ := hQ135
        rw [eq135] at e135
        have rr135 := rng32 rp135
        have N135 := Fr.app N118 NQ135
        show own_Ends p e below s room_1.cells room_1.slots (Q0 Z q1 q2 q3 q4 h0 n0) T135 (mkF m 138 #[.val (.int q1), .val (.int q2), .val (.int q3), .val (.int q4), .val (.int v3), .val (.int (1 : Int32)), .val (.int (1 : Int32)), .val (.int v54), .val (.ref b61), .val (.int v100), .val (.int (1 : Int32)), .unset] [(.int rp135)])
        refine own_go (mkF m 140 #[.val (.int q1), .val (.int q2), .val (.int q3), .val (.int q4), .val (.int v3), .val (.int (1 : Int32)), .val (.int (1 : Int32)), .val (.int v54), .val (.ref b61), .val (.int v100), .val (.int (1 : Int32)), .unset] [(.int v100), (.int rp135)]) (fun t k => XS.iload X135.here hx rfl (hb hby at_138) rfl k) ?_
        refine own_go (mkF m 142 #[.val (.int q1), .val (.int q2), .val (.int q3), .val (.int q4), .val (.int v3), .val (.int (1 : Int32)), .val (.int (1 : Int32)), .val (.int v54), .val (.ref b61), .val (.int v100), .val (.int (1 : Int32)), .unset] [(.int v3), (.int v100), (.int rp135)]) (fun t k => XS.iload X135.here hx rfl (hb hby at_140) rfl k) ?_
        refine own_go (mkF m 144 #[.val (.int q1), .val (.int q2), .val (.int q3), .val (.int q4), .val (.int v3), .val (.int (1 : Int32)), .val (.int (1 : Int32)), .val (.int v54), .val (.ref b61), .val (.int v100), .val (.int (1 : Int32)), .unset] [(.int (1 : Int32)), (.int v3), (.int v100), (.int rp135)]) (fun t k => XS.iload X135.here hx rfl (hb hby at_142) rfl k) ?_
        refine own_go (mkF m 146 #[.val (.int q1), .val (.int q2), .val (.int q3), .val (.int q4), .val (.int v3), .val (.int (1 : Int32)), .val (.int (1 : Int32)), .val (.int v54), .val (.ref b61), .val (.int v100), .val (.int (1 : Int32)), .unset] [(.int v54), (.int (1 : Int32)), (.int v3), (.int v100), (.int rp135)]) (fun t k => XS.iload X135.here hx rfl (hb hby at_144) rfl k) ?_
        refine own_go (mkF m 148 #[.val (.int q1), .val (.int q2), .val (.int q3), .val (.int q4), .val (.int v3), .val (.int (1 : Int32)), .val (.int (1 : Int32)), .val (.int v54), .val (.ref b61), .val (.int v100), .val (.int (1 : Int32)), .unset] [(.int (1 : Int32)), (.int v54), (.int (1 : Int32)), (.int v3), (.int v100), (.int rp135)]) (fun t k => XS.iload X135.here hx rfl (hb hby at_146) rfl k) ?_
        have lt148_2 : (1 : Int32).toInt = 1 := rfl
        have lt148_4 : (1 : Int32).toInt = 1 := rfl
        refine own_callS X135 hx hZ (y := (⟨"com/example/chronoquorum/chronoquorum/LiveNodesPositionOfPinLaw", "expected", "(IIZIZ)I"⟩ : MethodName)) hown (hw _ (List.mem_of_getElem? (i := 21) rfl)) (hw _ (List.mem_of_getElem? (i := 22) rfl)) (hw _ (List.mem_of_getElem? (i := 23) rfl)) (hw _ (List.mem_of_getElem? (i := 24) rfl)) (by decide) e135 (rmE l Z a0 hw [] v100 v3 (1 : Int32) v54 (1 : Int32) h91 n0 Z91 (by omega)) 1 (by decide) (by decide) (by decide) (by decide) (g := (mkF m 148 #[.val (.int q1), .val (.int q2), .val (.int q3), .val (.int q4), .val (.int v3), .val (.int (1 : Int32)), .val (.int (1 : Int32)), .val (.int v54), .val (.ref b61), .val (.int v100), .val (.int (1 : Int32)), .unset] [(.int (1 : Int32)), (.int v54), (.int (1 : Int32)), (.int v3), (.int v100), (.int rp135)])) rfl (by rw [hml]; rfl) [(.int v100), (.int v3), (.int (1 : Int32)), (.int v54), (.int (1 : Int32))] [(.int rp135)] (lenOf pd0_2 rfl) rfl rfl (by show 2 * 0 + _ ≤ _; exact Nat.le_of_eq rfl) (hb hby at_148) ?_
        intro rv148 T148 h148 L148 X148 e148 hQ148
        obtain ⟨⟨re148, rfl, hr148⟩, NQ148, eq148⟩ := hQ148
        rw [eq148] at e148
        have N148 := Fr.app N135 NQ148
        show own_Ends p e below s room_1.cells room_1.slots (Q0 Z q1 q2 q3 q4 h0 n0) T148 (mkF m 151 #[.val (.int q1), .val (.int q2), .val (.int q3), .val (.int q4), .val (.int v3), .val (.int (1 : Int32)), .val (.int (1 : Int32)), .val (.int v54), .val (.ref b61), .val (.int v100), .val (.int (1 : Int32)), .unset] [(.int re148), (.int rp135)])
        have c151 : rp135.toInt = re148.toInt := own_pos1 hr135 hr148 PX91 (by omega)
        refine own_go (mkF m 154 #[.val (.int q1), .val (.int q2), .val (.int q3), .val (.int q4), .val (.int v3), .val (.int (1 : Int32)), .val (.int (1 : Int32)), .val (.int v54), .val (.ref b61), .val (.int v100), .val (.int (1 : Int32)), .unset] []) (fun t k => XS.icmpNo X148.here hx rfl (hb hby at_151) rfl (own_icF (cd := .ne) (fun q => q c151)) k) ?_
        refine own_go (mkF m 155 #[.val (.int q1), .val (.int q2), .val (.int q3), .val (.int q4), .val (.int v3), .val (.int (1 : Int32)), .val (.int (1 : Int32)), .val (.int v54), .val (.ref b61), .val (.int v100), .val (.int (1 : Int32)), .unset] [(.int (1 : Int32))]) (fun t k => XS.iconst X148.here hx rfl (hb hby at_154) k) ?_
        refine own_go (mkF m 159 #[.val (.int q1), .val (.int q2), .val (.int q3), .val (.int q4), .val (.int v3), .val (.int (1 : Int32)), .val (.int (1 : Int32)), .val (.int v54), .val (.ref b61), .val (.int v100), .val (.int (1 : Int32)), .unset] [(.int (1 : Int32))]) (fun t k => XS.goto X148.here hx rfl (pc0 := 155) (pc' := 159) rfl (hb hby at_155) (by decide) (by decide) k) ?_
        refine own_go (mkF m 161 #[.val (.int q1), .val (.int q2), .val (.int q3), .val (.int q4), .val (.int v3), .val (.int (1 : Int32)), .val (.int (1 : Int32)), .val (.int v54), .val (.ref b61), .val (.int v100), .val (.int (1 : Int32)), .val (.int (1 : Int32))] []) (fun t k => XS.istore X148.here hx rfl (hb hby at_159) rfl (l' := #[.val (.int q1), .val (.int q2), .val (.int q3), .val (.int q4), .val (.int v3), .val (.int (1 : Int32)), .val (.int (1 : Int32)), .val (.int v54), .val (.ref b61), .val (.int v100), .val (.int (1 : Int32)), .val (.int (1 : Int32))]) rfl k) ?_
        refine own_go (mkF m 163 #[.val (.int q1), .val (.int q2), .val (.int q3), .val (.int q4), .val (.int v3), .val (.int (1 : Int32)), .val (.int (1 : Int32)), .val (.int v54), .val (.ref b61), .val (.int v100), .val (.int (1 : Int32)), .val (.int (1 : Int32))] [(.int (1 : Int32))]) (fun t k => XS.iload X148.here hx rfl (hb hby at_161) rfl k) ?_
        refine own_go (mkF m 166 #[.val (.int q1), .val (.int q2), .val (.int q3), .val (.int q4), .val (.int v3), .val (.int (1 : Int32)), .val (.int (1 : Int32)), .val (.int v54), .val (.ref b61), .val (.int v100), .val (.int (1 : Int32)), .val (.int (1 : Int32))] []) (fun t k => XS.ifNo X148.here hx rfl (hb hby at_163) rfl (by decide) k) ?_
        refine own_go (mkF m 168 #[.val (.int q1), .val (.int q2), .val (.int q3), .val (.int q4), .val (.int v3), .val (.int (1 : Int32)), .val (.int (1 : Int32)), .val (.int v54), .val (.ref b61), .val (.int v100), .val (.int (1 : Int32)), .val (.int (1 : Int32))] [(.int (1 : Int32))]) (fun t k => XS.iload X148.here hx rfl (hb hby at_166) rfl k) ?_
        refine own_go (mkF m 171 #[.val (.int q1), .val (.int q2), .val (.int q3), .val (.int q4), .val (.int v3), .val (.int (1 : Int32)), .val (.int (1 : Int32)), .val (.int v54), .val (.ref b61), .val (.int v100), .val (.int (1 : Int32)), .val (.int (1 : Int32))] []) (fun t k => XS.ifNo X148.here hx rfl (hb hby at_168) rfl (by decide) k) ?_
        refine own_go (mkF m 172 #[.val (.int q1), .val (.int q2), .val (.int q3), .val (.int q4), .val (.int v3), .val (.int (1 : Int32)), .val (.int (1 : Int32)), .val (.int v54), .val (.ref b61), .val (.int v100), .val (.int (1 : Int32)), .val (.int (1 : Int32))] [(.int (1 : Int32))]) (fun t k => XS.iconst X148.here hx rfl (hb hby at_171) k) ?_
        refine own_go (mkF m 176 #[.val (.int q1), .val (.int q2), .val (.int q3), .val (.int q4), .val (.int v3), .val (.int (1 : Int32)), .val (.int (1 : Int32)), .val (.int v54), .val (.ref b61), .val (.int v100), .val (.int (1 : Int32)), .val (.int (1 : Int32))] [(.int (1 : Int32))]) (fun t k => XS.goto X148.here hx rfl (pc0 := 172) (pc' := 176) rfl (hb hby at_172) (by decide) (by decide) k) ?_
        refine own_retI X148 hx hlk hret (by simp) rfl (hb hby at_176) (by decide) (by decide) ?_
        rw [e148]
        exact ⟨rfl, N148⟩
set_option maxRecDepth 65536 in
set_option maxHeartbeats 40000000 in
theorem comes_1 {Post : Tables → Env → Array Value → State → Outcome → State → Prop} (hpost : ∀ tb e args s v u, (limb_1_1.after args s (.returned v) u = true ∧ limb_1_2.after args s (.returned v) u = true ∧ True) → FrameEnd s (.returned v) u (Jvm.fieldLocs frame_1_writes args s ++ Jvm.arrayLocs frame_1_arrays args s ++ Jvm.staticLocs frame_1_statics s) 24 192 → Post tb e args s (.returned v) u) :
    ArmFor flags0 classFile x code maxLocals ret World_1 tables_1 room_1 Calls_1 rest_1 Pre_1 Post := by
  intro l hfl _ _ p e ha hc hk s m args below hf hA hF happ hP
  obtain ⟨hcalls, hrest, hpre⟩ := hP
  obtain ⟨-, -, -, hnamed, -, -, -, hat⟩ := (Spec.applies_iff hf).mp happ
  obtain ⟨hg, hn⟩ := and_e (Cond.before_iff.mp (show (Jvm.Cond.and given_1 narrow_1).before args s = true from hpre))
  obtain ⟨q0, u0⟩ := and_e hg
  obtain ⟨k0, u1⟩ := and_e u0
  obtain ⟨k1, u2⟩ := and_e u1
  obtain ⟨k2, u3⟩ := and_e u2
  obtain ⟨w0, w1, w2, w3, rfl⟩ : ∃ w0 w1 w2 w3 : Value, args = #[w0, w1, w2, w3] := by
    have hs : args.size = 4 := by simpa [Cond.value, given_1] using q0
    obtain ⟨L⟩ := args
    match L, hs with
    | [w0, w1, w2, w3], _ => exact ⟨w0, w1, w2, w3, rfl⟩
  have hw := fun d (hd : d ∈ tables_1) => atoms_spec (ws := Jvm.Cond.code x code maxLocals ret :: tables_1) hat d (List.mem_cons_of_mem _ hd)
  obtain ⟨i0, g0⟩ := is_v k0
  obtain rfl : w0 = (.int i0) := Option.some.inj g0
  obtain ⟨i1, g1⟩ := is_v k1
  obtain rfl : w1 = (.int i1) := Option.some.inj g1
  obtain ⟨i2, g2⟩ := is_v k2
  obtain rfl : w2 = (.int i2) := Option.some.inj g2
  obtain ⟨i3, g3⟩ := is_v u3
  obtain rfl : w3 = (.int i3) := Option.some.inj g3
  obtain ⟨n, o, h1, h2, h3, _, L, rfl, ⟨rfl, N⟩, hq⟩ := rm0 l s _ hw tables_1 i0 i1 i2 i3 s.heap s.heap.size (Nat.le_refl _)  p e ha hc hk s m _ below hf ((Spec.applies_iff_loose hf).mp happ).1 ⟨rfl, State.Warmed39.refl s, rfl⟩ trivial
  refine ⟨n, _, h1, h2, h3, hpost _ _ _ _ _ _ ⟨Cond.after_iff.mpr rfl, Cond.after_iff.mpr (eq_i res_at (Term.int_eval (1)) rfl), trivial⟩ ⟨hq.1, hq.2.1, (hq.2.2.sift fun y hy => Or.inr (N y hy)).mono (by decide) (by decide)⟩⟩
theorem main_1_1 : Claimed_1_1 := comes_1 fun _ _ _ _ _ _ h hF => ⟨h.1, hF⟩
theorem main_1_2 : Claimed_1_2 := comes_1 fun _ _ _ _ _ _ h hF => ⟨h.2.1, hF⟩
end Jvm.Pilot.@@N@@
namespace Jvm.Pilot.@@N@@
open Jvm Jvm.ClassFile Sem Op Lib Jvm.Free Jvm.Stand Jvm.Pilot.@@N@@.Jvm.D
/-! MADE BY PROGRAM (witnessworld.py) out of the Statement's table words and the real class files: 12 classes; the members and pool entries that the words name. The judged class is class 1, her method 1. -/
namespace start1
open Jvm.ClassFile
def u (s : String) : CpInfo := .utf8 (stringToUtf16 s)
/-- a pool by its gaps: so many unusable entries, then the entry; so many at the end -/
def gap : Nat → List CpInfo → List CpInfo
  | 0, r => r
  | n + 1, r => .unusable :: gap n r
def poolList (es : List (Nat × CpInfo)) (last : Nat) : List CpInfo := es.foldr (fun e r => gap e.1 (e.2 :: r)) (gap last [])
def pool (es : List (Nat × CpInfo)) (last : Nat) : Array CpInfo := ⟨poolList es last⟩
def fileOf (pool : Array CpInfo) (this : Nat) (attrs : Array Attribute := #[]) (ms : Array MethodInfo := #[]) (fl : Nat := 33) (sup : Nat := 0) (ifs : Array Nat := #[]) (fds : Array FieldInfo := #[]) : ClassFile where
  minorVersion := 0
  majorVersion := 65
  constantPool := pool
  accessFlags := fl
  thisClass := this
  superClass := sup
  interfaces := ifs
  fields := fds
  methods := ms
  attributes := attrs
def plain (name : String) (sup : Option ClassId) : Class where
  name := name
  kind := .ordinary
  loader := none
  accessFlags := 33
  super := sup
  interfaces := #[]
  cf := none
  fields := #[]
  methods := #[]
  instanceTypes := #[]
  staticTypes := #[]
  resolved := #[]
  callSites := []
  init := .initialized
  statics := none
  mirror := none

def pool0 : Array CpInfo := pool [(5, u "<init>"), (0, u "()V"), (1, .class_ 10), (1, u "java/lang/Object")] 113

def k0c0 : Code := { maxStack := 0, maxLocals := 1, code := object_method_1_code, exceptionTable := #[], attributes := #[] }
def k0m0 : Method := { name := "<init>", desc := "()V", sig := { parameters := [], returnType := none }, accessFlags := 1, code := some k0c0 }
/-- java/lang/Object -/
def k0 : Class := { plain "java/lang/Object" none with
  accessFlags := 33
  interfaces := #[]
  cf := some (fileOf pool0 8 #[] #[{ accessFlags := 1, nameIndex := 5, descriptorIndex := 6, attributes := #[] }] 33 0 #[] #[])
  fields := #[]
  methods := #[k0m0]
  instanceTypes := #[]
  staticTypes := #[]
  resolved := Array.replicate 124 none
  statics := none }

def pool1 : Array CpInfo := pool [(2, .class_ 4), (1, u "java/lang/Object"), (0, u "<init>"), (0, u "()V"), (0, .integer 2147483647), (0, .class_ 9), (0, u "com/example/chronoquorum/chronoquorum/LiveNodes"), (0, .methodref 8 11), (0, .nameAndType 5 12), (0, u "(I)V"), (0, .methodref 8 14), (0, .nameAndType 15 12), (0, u "leave"), (0, .methodref 8 17), (0, .nameAndType 18 19), (0, u "join"), (0, u "()I"), (0, .methodref 8 21), (0, .nameAndType 22 23), (0, u "positionOf"), (0, u "(I)I"), (0, .methodref 25 26), (0, .class_ 27), (0, .nameAndType 28 29), (0, u "com/example/chronoquorum/chronoquorum/LiveNodesPositionOfPinLaw"), (0, u "expected"), (0, u "(IIZIZ)I"), (2, u "law"), (0, u "(IIII)Z")] 3

def k1m0 : Method := { name := "<init>", desc := "()V", sig := { parameters := [], returnType := none }, accessFlags := 1, code := none }
def k1c1 : Code := { maxStack := 6, maxLocals := 12, code := code, exceptionTable := #[], attributes := #[] }
def k1m1 : Method := { name := "law", desc := "(IIII)Z", sig := { parameters := [.int, .int, .int, .int], returnType := some .boolean }, accessFlags := 9, code := some k1c1 }
def k1c2 : Code := { maxStack := 3, maxLocals := 6, code := method_3_code, exceptionTable := #[], attributes := #[] }
def k1m2 : Method := { name := "expected", desc := "(IIZIZ)I", sig := { parameters := [.int, .int, .boolean, .int, .boolean], returnType := some .int }, accessFlags := 10, code := some k1c2 }
/-- com/example/chronoquorum/chronoquorum/LiveNodesPositionOfPinLaw -/
def k1 : Class := { plain "com/example/chronoquorum/chronoquorum/LiveNodesPositionOfPinLaw" (some 0) with
  accessFlags := 49
  interfaces := #[]
  cf := some (fileOf pool1 25 #[] #[{ accessFlags := 1, nameIndex := 5, descriptorIndex := 6, attributes := #[] }, { accessFlags := 9, nameIndex := 32, descriptorIndex := 33, attributes := #[] }, { accessFlags := 10, nameIndex := 28, descriptorIndex := 29, attributes := #[] }] 49 2 #[] #[])
  fields := #[]
  methods := #[k1m0, k1m1, k1m2]
  instanceTypes := #[]
  staticTypes := #[]
  resolved := Array.replicate 37 none
  statics := none }

def pool2 : Array CpInfo := pool [(1, .methodref 2 3), (0, .class_ 4), (0, .nameAndType 5 6), (0, u "java/lang/Object"), (0, u "<init>"), (0, u "()V"), (0, .fieldref 8 9), (0, .class_ 10), (0, .nameAndType 11 12), (0, u "com/example/chronoquorum/chronoquorum/LiveNodes"), (0, u "ids"), (0, u "[I"), (0, .fieldref 8 14), (0, .nameAndType 15 12), (0, u "positions"), (0, .methodref 8 17), (0, .nameAndType 18 19), (0, u "join"), (0, u "()I"), (0, .fieldref 8 21), (0, .nameAndType 22 23), (0, u "size"), (0, u "I"), (4, u "(I)V"), (0, .fieldref 8 30), (0, .nameAndType 31 23), (0, u "lastId"), (0, .methodref 8 33), (0, .nameAndType 34 35), (0, u "positionOf"), (0, u "(I)I"), (0, .methodref 8 37), (0, .nameAndType 38 39), (0, u "contains"), (0, u "(I)Z"), (9, .methodref 50 51), (0, .class_ 52), (0, .nameAndType 53 35), (0, u "java/lang/Math"), (0, u "incrementExact"), (0, .methodref 50 55), (0, .nameAndType 56 57), (0, u "max"), (0, u "(II)I"), (0, .methodref 59 60), (0, .class_ 61), (0, .nameAndType 62 63), (0, u "java/util/Arrays"), (0, u "copyOf"), (0, u "([II)[I"), (0, .methodref 8 65), (0, .nameAndType 66 28), (0, u "requireLive"), (0, u "NOT_LIVE"), (6, u "leave")] 17

def k2c0 : Code := { maxStack := 3, maxLocals := 3, code := prog_14_method_1_code, exceptionTable := #[], attributes := #[] }
def k2m0 : Method := { name := "<init>", desc := "(I)V", sig := { parameters := [.int], returnType := none }, accessFlags := 0, code := some k2c0 }
def k2c1 : Code := { maxStack := 2, maxLocals := 2, code := prog_14_method_4_code, exceptionTable := #[], attributes := #[] }
def k2m1 : Method := { name := "positionOf", desc := "(I)I", sig := { parameters := [.int], returnType := some .int }, accessFlags := 0, code := some k2c1 }
def k2c2 : Code := { maxStack := 2, maxLocals := 2, code := prog_14_method_5_code, exceptionTable := #[], attributes := #[] }
def k2m2 : Method := { name := "contains", desc := "(I)Z", sig := { parameters := [.int], returnType := some .boolean }, accessFlags := 0, code := some k2c2 }
def k2c3 : Code := { maxStack := 3, maxLocals := 2, code := prog_14_method_6_code, exceptionTable := #[], attributes := #[] }
def k2m3 : Method := { name := "requireLive", desc := "(I)V", sig := { parameters := [.int], returnType := none }, accessFlags := 0, code := some k2c3 }
def k2c4 : Code := { maxStack := 5, maxLocals := 2, code := prog_14_method_7_code, exceptionTable := #[], attributes := #[] }
def k2m4 : Method := { name := "join", desc := "()I", sig := { parameters := [], returnType := some .int }, accessFlags := 0, code := some k2c4 }
def k2c5 : Code := { maxStack := 3, maxLocals := 4, code := prog_14_method_8_code, exceptionTable := #[], attributes := #[] }
def k2m5 : Method := { name := "leave", desc := "(I)V", sig := { parameters := [.int], returnType := none }, accessFlags := 0, code := some k2c5 }
/-- com/example/chronoquorum/chronoquorum/LiveNodes -/
def k2 : Class := { plain "com/example/chronoquorum/chronoquorum/LiveNodes" (some 0) with
  accessFlags := 32
  interfaces := #[]
  cf := some (fileOf pool2 8 #[] #[{ accessFlags := 0, nameIndex := 5, descriptorIndex := 28, attributes := #[] }, { accessFlags := 0, nameIndex := 34, descriptorIndex := 35, attributes := #[] }, { accessFlags := 0, nameIndex := 38, descriptorIndex := 39, attributes := #[] }, { accessFlags := 0, nameIndex := 66, descriptorIndex := 28, attributes := #[] }, { accessFlags := 0, nameIndex := 18, descriptorIndex := 19, attributes := #[] }, { accessFlags := 0, nameIndex := 74, descriptorIndex := 28, attributes := #[] }] 32 2 #[] #[{ accessFlags := 24, nameIndex := 67, descriptorIndex := 23, attributes := #[] }, { accessFlags := 2, nameIndex := 11, descriptorIndex := 12, attributes := #[] }, { accessFlags := 2, nameIndex := 22, descriptorIndex := 23, attributes := #[] }, { accessFlags := 2, nameIndex := 15, descriptorIndex := 12, attributes := #[] }, { accessFlags := 2, nameIndex := 31, descriptorIndex := 23, attributes := #[] }])
  fields := #[{ name := "NOT_LIVE", type := .int, accessFlags := 24, slot := 0, constantValue := 0 }, { name := "ids", type := (.array .int), accessFlags := 2, slot := 0, constantValue := 0 }, { name := "size", type := .int, accessFlags := 2, slot := 1, constantValue := 0 }, { name := "positions", type := (.array .int), accessFlags := 2, slot := 2, constantValue := 0 }, { name := "lastId", type := .int, accessFlags := 2, slot := 3, constantValue := 0 }]
  methods := #[k2m0, k2m1, k2m2, k2m3, k2m4, k2m5]
  instanceTypes := #[(.array .int), .int, (.array .int), .int]
  staticTypes := #[.int]
  resolved := Array.replicate 92 none
  statics := none }

def pool3 : Array CpInfo := pool [(1, .class_ 2), (0, u "java/lang/Math"), (1, .class_ 6), (1, u "java/lang/Object"), (0, u "<init>"), (0, u "()V"), (89, .class_ 100), (1, u "java/lang/Math$RandomNumberGeneratorHolder"), (33, .integer 2147483647), (24, u "(I)I"), (12, u "negativeZeroFloatBits"), (0, u "J"), (2, u "negativeZeroDoubleBits"), (21, u "max"), (2, u "min"), (43, u "$assertionsDisabled"), (0, u "Z"), (88, u "(II)I"), (2, u "twoToTheDoubleScaleDown"), (0, u "D"), (4, u "twoToTheDoubleScaleUp"), (9, u "E"), (3, u "PI"), (2, u "TAU"), (2, u "DEGREES_TO_RADIANS"), (0, u "RADIANS_TO_DEGREES"), (36, u "incrementExact")] 57

def k3m0 : Method := { name := "<init>", desc := "()V", sig := { parameters := [], returnType := none }, accessFlags := 2, code := none }
def k3c1 : Code := { maxStack := 3, maxLocals := 1, code := jdk_29_method_37_code, exceptionTable := #[], attributes := #[] }
def k3m1 : Method := { name := "incrementExact", desc := "(I)I", sig := { parameters := [.int], returnType := some .int }, accessFlags := 9, code := some k3c1 }
def k3c2 : Code := { maxStack := 2, maxLocals := 2, code := jdk_29_method_65_code, exceptionTable := #[], attributes := #[] }
def k3m2 : Method := { name := "max", desc := "(II)I", sig := { parameters := [.int, .int], returnType := some .int }, accessFlags := 9, code := some k3c2 }
def k3c3 : Code := { maxStack := 2, maxLocals := 2, code := jdk_29_method_69_code, exceptionTable := #[], attributes := #[] }
def k3m3 : Method := { name := "min", desc := "(II)I", sig := { parameters := [.int, .int], returnType := some .int }, accessFlags := 9, code := some k3c3 }
/-- java/lang/Math -/
def k3 : Class := { plain "java/lang/Math" (some 0) with
  accessFlags := 49
  interfaces := #[]
  cf := some (fileOf pool3 1 #[.nestMembers #[98]] #[{ accessFlags := 2, nameIndex := 7, descriptorIndex := 8, attributes := #[] }, { accessFlags := 9, nameIndex := 402, descriptorIndex := 159, attributes := #[] }, { accessFlags := 9, nameIndex := 198, descriptorIndex := 335, attributes := #[] }, { accessFlags := 9, nameIndex := 201, descriptorIndex := 335, attributes := #[] }] 49 4 #[] #[{ accessFlags := 25, nameIndex := 354, descriptorIndex := 339, attributes := #[] }, { accessFlags := 25, nameIndex := 358, descriptorIndex := 339, attributes := #[] }, { accessFlags := 25, nameIndex := 361, descriptorIndex := 339, attributes := #[] }, { accessFlags := 26, nameIndex := 364, descriptorIndex := 339, attributes := #[] }, { accessFlags := 26, nameIndex := 365, descriptorIndex := 339, attributes := #[] }, { accessFlags := 26, nameIndex := 172, descriptorIndex := 173, attributes := #[] }, { accessFlags := 26, nameIndex := 176, descriptorIndex := 173, attributes := #[] }, { accessFlags := 8, nameIndex := 344, descriptorIndex := 339, attributes := #[] }, { accessFlags := 8, nameIndex := 338, descriptorIndex := 339, attributes := #[] }, { accessFlags := 4120, nameIndex := 245, descriptorIndex := 246, attributes := #[] }])
  fields := #[{ name := "E", type := .double, accessFlags := 25, slot := 0, constantValue := 0 }, { name := "PI", type := .double, accessFlags := 25, slot := 1, constantValue := 0 }, { name := "TAU", type := .double, accessFlags := 25, slot := 2, constantValue := 0 }, { name := "DEGREES_TO_RADIANS", type := .double, accessFlags := 26, slot := 3, constantValue := 0 }, { name := "RADIANS_TO_DEGREES", type := .double, accessFlags := 26, slot := 4, constantValue := 0 }, { name := "negativeZeroFloatBits", type := .long, accessFlags := 26, slot := 5, constantValue := 0 }, { name := "negativeZeroDoubleBits", type := .long, accessFlags := 26, slot := 6, constantValue := 0 }, { name := "twoToTheDoubleScaleUp", type := .double, accessFlags := 8, slot := 7, constantValue := 0 }, { name := "twoToTheDoubleScaleDown", type := .double, accessFlags := 8, slot := 8, constantValue := 0 }, { name := "$assertionsDisabled", type := .boolean, accessFlags := 4120, slot := 9, constantValue := 0 }]
  methods := #[k3m0, k3m1, k3m2, k3m3]
  instanceTypes := #[]
  staticTypes := #[.double, .double, .double, .double, .double, .long, .long, .double, .double, .boolean]
  resolved := Array.replicate 460 none
  statics := none }

def pool4 : Array CpInfo := pool [(2, .class_ 4), (1, u "java/lang/Object"), (0, u "<init>"), (0, u "()V"), (7, .class_ 16), (1, u "java/util/Arrays"), (57, .class_ 76), (1, u "java/util/Arrays$NaturalOrder"), (36, .class_ 115), (1, u "java/util/Arrays$LegacyMergeSort"), (1, u "Z"), (32, .methodref 151 152), (0, .class_ 153), (0, .nameAndType 154 155), (0, u "java/lang/System"), (0, u "arraycopy"), (0, u "(Ljava/lang/Object;ILjava/lang/Object;II)V"), (146, u "copyOf"), (1, .methodref 305 306), (0, .class_ 307), (0, .nameAndType 308 309), (0, u "java/lang/Math"), (0, u "min"), (0, u "(II)I"), (65, .class_ 376), (0, u "java/util/Arrays$ArrayList"), (68, u "$assertionsDisabled"), (269, u "MIN_ARRAY_SORT_GRAN"), (0, u "I"), (2, u "INSERTIONSORT_THRESHOLD"), (151, u "([II)[I"), (103, .class_ 976), (0, u "java/util/Arrays$ArrayItr")] 52

def k4m0 : Method := { name := "<init>", desc := "()V", sig := { parameters := [], returnType := none }, accessFlags := 2, code := none }
def k4c1 : Code := { maxStack := 6, maxLocals := 3, code := jdk_65_method_123_code, exceptionTable := #[], attributes := #[] }
def k4m1 : Method := { name := "copyOf", desc := "([II)[I", sig := { parameters := [(.array .int), .int], returnType := some (.array .int) }, accessFlags := 9, code := some k4c1 }
/-- java/util/Arrays -/
def k4 : Class := { plain "java/util/Arrays" (some 0) with
  accessFlags := 49
  interfaces := #[]
  cf := some (fileOf pool4 14 #[.nestMembers #[975, 375, 113, 74]] #[{ accessFlags := 2, nameIndex := 5, descriptorIndex := 6, attributes := #[] }, { accessFlags := 9, nameIndex := 302, descriptorIndex := 871, attributes := #[] }] 49 2 #[] #[{ accessFlags := 26, nameIndex := 715, descriptorIndex := 716, attributes := #[] }, { accessFlags := 26, nameIndex := 719, descriptorIndex := 716, attributes := #[] }, { accessFlags := 4120, nameIndex := 445, descriptorIndex := 117, attributes := #[] }])
  fields := #[{ name := "MIN_ARRAY_SORT_GRAN", type := .int, accessFlags := 26, slot := 0, constantValue := 0 }, { name := "INSERTIONSORT_THRESHOLD", type := .int, accessFlags := 26, slot := 1, constantValue := 0 }, { name := "$assertionsDisabled", type := .boolean, accessFlags := 4120, slot := 2, constantValue := 0 }]
  methods := #[k4m0, k4m1]
  instanceTypes := #[]
  staticTypes := #[.int, .int, .boolean]
  resolved := Array.replicate 1029 none
  statics := none }

def pool5 : Array CpInfo := pool [(2, .class_ 4), (1, u "java/lang/Object"), (0, u "<init>"), (0, u "()V"), (1, .class_ 10), (1, u "java/lang/System"), (0, u "allowSecurityManager"), (0, u "I"), (16, u "cons"), (0, u "Ljava/io/Console;"), (77, .class_ 110), (1, u "java/lang/System$CallersHolder"), (43, u "initialErrStream"), (0, u "Ljava/io/PrintStream;"), (19, u "security"), (0, u "Ljava/lang/SecurityManager;"), (31, .class_ 209), (0, u "java/lang/System$1"), (7, u "props"), (0, u "Ljava/util/Properties;"), (2, u "lineSeparator"), (0, u "Ljava/lang/String;"), (96, .class_ 321), (1, u "java/lang/System$LoggerFinder"), (5, .class_ 328), (0, u "java/lang/System$Logger"), (67, u "err"), (2, u "out"), (91, u "notSupportedJnuEncoding"), (15, u "in"), (17, u "initialIn"), (0, u "Ljava/io/InputStream;"), (35, u "bootLayer"), (0, u "Ljava/lang/ModuleLayer;"), (99, .class_ 664), (0, u "java/lang/System$2"), (9, u "NEVER"), (2, u "MAYBE"), (49, u "arraycopy"), (0, u "(Ljava/lang/Object;ILjava/lang/Object;II)V"), (72, .class_ 802), (0, u "java/lang/System$Logger$Level")] 31

def k5m0 : Method := { name := "<init>", desc := "()V", sig := { parameters := [], returnType := none }, accessFlags := 2, code := none }
def k5m1 : Method := { name := "arraycopy", desc := "(Ljava/lang/Object;ILjava/lang/Object;II)V", sig := { parameters := [(.object "java/lang/Object"), .int, (.object "java/lang/Object"), .int, .int], returnType := none }, accessFlags := 265, code := none }
/-- java/lang/System -/
def k5 : Class := { plain "java/lang/System" (some 0) with
  accessFlags := 49
  interfaces := #[]
  cf := some (fileOf pool5 8 #[.nestMembers #[319, 327, 801, 108, 663, 208]] #[{ accessFlags := 2, nameIndex := 5, descriptorIndex := 6, attributes := #[] }, { accessFlags := 265, nameIndex := 727, descriptorIndex := 728, attributes := #[] }] 49 2 #[] #[{ accessFlags := 25, nameIndex := 507, descriptorIndex := 526, attributes := #[] }, { accessFlags := 25, nameIndex := 399, descriptorIndex := 155, attributes := #[] }, { accessFlags := 25, nameIndex := 396, descriptorIndex := 155, attributes := #[] }, { accessFlags := 10, nameIndex := 525, descriptorIndex := 526, attributes := #[] }, { accessFlags := 26, nameIndex := 674, descriptorIndex := 12, attributes := #[] }, { accessFlags := 26, nameIndex := 677, descriptorIndex := 12, attributes := #[] }, { accessFlags := 10, nameIndex := 11, descriptorIndex := 12, attributes := #[] }, { accessFlags := 74, nameIndex := 175, descriptorIndex := 176, attributes := #[] }, { accessFlags := 10, nameIndex := 491, descriptorIndex := 222, attributes := #[] }, { accessFlags := 74, nameIndex := 29, descriptorIndex := 30, attributes := #[] }, { accessFlags := 74, nameIndex := 154, descriptorIndex := 155, attributes := #[] }, { accessFlags := 10, nameIndex := 217, descriptorIndex := 218, attributes := #[] }, { accessFlags := 10, nameIndex := 221, descriptorIndex := 222, attributes := #[] }, { accessFlags := 8, nameIndex := 562, descriptorIndex := 563, attributes := #[] }])
  fields := #[{ name := "in", type := (.object "java/io/InputStream"), accessFlags := 25, slot := 0, constantValue := 0 }, { name := "out", type := (.object "java/io/PrintStream"), accessFlags := 25, slot := 1, constantValue := 0 }, { name := "err", type := (.object "java/io/PrintStream"), accessFlags := 25, slot := 2, constantValue := 0 }, { name := "initialIn", type := (.object "java/io/InputStream"), accessFlags := 10, slot := 3, constantValue := 0 }, { name := "NEVER", type := .int, accessFlags := 26, slot := 4, constantValue := 0 }, { name := "MAYBE", type := .int, accessFlags := 26, slot := 5, constantValue := 0 }, { name := "allowSecurityManager", type := .int, accessFlags := 10, slot := 6, constantValue := 0 }, { name := "security", type := (.object "java/lang/SecurityManager"), accessFlags := 74, slot := 7, constantValue := 0 }, { name := "notSupportedJnuEncoding", type := (.object "java/lang/String"), accessFlags := 10, slot := 8, constantValue := 0 }, { name := "cons", type := (.object "java/io/Console"), accessFlags := 74, slot := 9, constantValue := 0 }, { name := "initialErrStream", type := (.object "java/io/PrintStream"), accessFlags := 74, slot := 10, constantValue := 0 }, { name := "props", type := (.object "java/util/Properties"), accessFlags := 10, slot := 11, constantValue := 0 }, { name := "lineSeparator", type := (.object "java/lang/String"), accessFlags := 10, slot := 12, constantValue := 0 }, { name := "bootLayer", type := (.object "java/lang/ModuleLayer"), accessFlags := 8, slot := 13, constantValue := 0 }]
  methods := #[k5m0, k5m1]
  instanceTypes := #[]
  staticTypes := #[(.object "java/io/InputStream"), (.object "java/io/PrintStream"), (.object "java/io/PrintStream"), (.object "java/io/InputStream"), .int, .int, .int, (.object "java/lang/SecurityManager"), (.object "java/lang/String"), (.object "java/io/Console"), (.object "java/io/PrintStream"), (.object "java/util/Properties"), (.object "java/lang/String"), (.object "java/lang/ModuleLayer")]
  resolved := Array.replicate 834 none
  statics := none }

def pool6 : Array CpInfo := pool [(1, u "java/lang/Cloneable"), (0, .class_ 1), (0, u "java/lang/Object"), (0, .class_ 3)] 3

/-- java/lang/Cloneable -/
def k6 : Class := { plain "java/lang/Cloneable" (some 0) with
  accessFlags := 1537
  interfaces := #[]
  cf := some (fileOf pool6 2 #[] #[] 1537 4 #[] #[])
  fields := #[]
  methods := #[]
  instanceTypes := #[]
  staticTypes := #[]
  resolved := Array.replicate 8 none
  statics := none }

def pool7 : Array CpInfo := pool [(1, u "java/io/Serializable"), (0, .class_ 1), (0, u "java/lang/Object"), (0, .class_ 3)] 3

/-- java/io/Serializable -/
def k7 : Class := { plain "java/io/Serializable" (some 0) with
  accessFlags := 1537
  interfaces := #[]
  cf := some (fileOf pool7 2 #[] #[] 1537 4 #[] #[])
  fields := #[]
  methods := #[]
  instanceTypes := #[]
  staticTypes := #[]
  resolved := Array.replicate 8 none
  statics := none }

/-- the primitive byte -/
def k8 : Class := { plain "byte" none with kind := .primitive 'B', accessFlags := 0x411 }
/-- [B -/
def k9 : Class := { plain "[B" (some 0) with kind := .array 8 .byte, interfaces := #[6, 7], accessFlags := 1041 }

/-- the primitive int -/
def k10 : Class := { plain "int" none with kind := .primitive 'I', accessFlags := 0x411 }
/-- [I -/
def k11 : Class := { plain "[I" (some 0) with kind := .array 10 .int, interfaces := #[6, 7], accessFlags := 1041 }

def heap : Heap := #[]
def classes : Array Class := #[k0, k1, k2, k3, k4, k5, k6, k7, k8, k9, k10, k11]
def interned : List (Array UInt16 × Addr) := []
def slotsUsed : Nat := 0
def theMethod : MethodId := ⟨1, 1⟩
def args0 : Array Value := #[.int 5, .int 7, .int 2, .int 4]
def aboutOver (below : List Frame) : State where
  vm := { classes := classes, interned := interned.toArray }
  heap := heap
  slotsUsed := slotsUsed
  threads := #[{ frames := .invoking theMethod args0 :: below }]
def below0 : List Frame := [.native { method := ⟨0, 0⟩, args := #[] }]
def about1 : State := aboutOver below0
def p0 : Program := .bare "" "" ""
def e0 : Env := launch0.env 0 0 0
theorem w_frames : about1.frames = Frame.invoking theMethod args0 :: below0 := rfl
set_option maxRecDepth 65536 in
theorem w_args : argsFit about1.vm theMethod args0 = true := by decide +kernel
set_option maxRecDepth 65536 in
theorem w_heap : heapFits about1 = true := by decide +kernel
set_option maxRecDepth 65536 in
theorem w_runnable : about1.curStatus? = some .runnable := by decide +kernel
set_option maxRecDepth 65536 in
theorem w_alone : about1.alone = true := by decide +kernel
set_option maxRecDepth 65536 in
theorem w_named : about1.methodNamed? x = some theMethod := by decide +kernel
set_option maxRecDepth 65536 in
theorem w_hears : about1.hears theMethod below0 = true := by decide +kernel
set_option maxRecDepth 65536 in
theorem w_ripe : about1.ripe theMethod args0 below0 = true := by decide +kernel
theorem w_running : about1.status = .running := rfl
set_option maxRecDepth 65536 in
theorem w_room : about1.hasRoom e0.platform room_1 = true :=
  launch0.hasRoom_least _ room_1 (by decide +kernel) (by decide +kernel) (by decide +kernel) (by decide +kernel) (by decide +kernel) (by decide +kernel)
theorem allAtoms_all (ts : List Jvm.Cond) (a : Array Jvm.Value) (st : Jvm.State) : (allAtoms ts).before a st = ts.all (fun c => c.before a st) := by
  induction ts with
  | nil => rfl
  | cons c t ih =>
    show (Jvm.Cond.and c (allAtoms t)).before a st = _
    rw [Jvm.Cond.before_and, ih, List.all_cons]
def words1 : List Jvm.Cond := Jvm.Cond.code x code maxLocals ret :: tables_1
/-- a 'code' word, met by the world's own term for the bytes: nothing is compared byte by byte -/
theorem code_word {y : MethodName} {bytes : ByteArray} {mx : Nat} {rt : Option FieldType} {a : Array Value} {s : State} {m : MethodId} {meth : Method} {c : Code} (h1 : s.methodNamed? y = some m) (h2 : s.vm.method? m = some meth) (h3 : meth.code = some c) (h4 : c.code = bytes)
    (h5 : (c.maxLocals == mx && c.exceptionTable.isEmpty && decide (c.maxStack ≤ mostOperands) && decide (meth.sig.returnType = rt) && !meth.locks && decide (parseMethodDescriptor y.desc = some meth.sig)) = true) : (Jvm.Cond.code y bytes mx rt).before a s = true := by
  simp only [Bool.and_eq_true, beq_iff_eq, Bool.not_eq_true', decide_eq_true_eq] at h5
  obtain ⟨⟨⟨⟨⟨g1, g2⟩, g3⟩, g4⟩, g5⟩, g6⟩ := h5
  simp [Cond.before, Cond.holds, Cond.value, h1, h2, h3, h4, g1, g2, g3, g4, g5, g6]
def isCode : Jvm.Cond → Bool
  | .code _ _ _ _ => true
  | _ => false
theorem all_split {L : List Jvm.Cond} {P : Jvm.Cond → Bool} (h1 : L.all (fun c => isCode c || P c) = true) (h2 : ∀ c ∈ L.filter isCode, P c = true) : L.all P = true := by
  refine List.all_eq_true.mpr fun c hc => ?_
  have h := List.all_eq_true.mp h1 c hc
  rcases Bool.eq_false_or_eq_true (isCode c) with hi | hi
  · exact h2 c (List.mem_filter.mpr ⟨hc, hi⟩)
  · simpa [hi] using h
set_option maxRecDepth 65536 in
theorem w_c0 : (Jvm.Cond.code x code maxLocals ret).before args0 about1 = true := code_word (m := ⟨1, 1⟩) (meth := k1m1) (c := k1c1) (by decide +kernel) rfl rfl rfl (by decide +kernel)
set_option maxRecDepth 65536 in
theorem w_c1 : (Jvm.Cond.code ({ cls := "com/example/chronoquorum/chronoquorum/LiveNodes", name := "<init>", desc := "(I)V" } : Jvm.MethodName) prog_14_method_1_code (3 : Nat) (Option.none : Option Jvm.ClassFile.FieldType)).before args0 about1 = true := code_word (m := ⟨2, 0⟩) (meth := k2m0) (c := k2c0) (by decide +kernel) rfl rfl rfl (by decide +kernel)
set_option maxRecDepth 65536 in
theorem w_c2 : (Jvm.Cond.code ({ cls := "java/lang/Object", name := "<init>", desc := "()V" } : Jvm.MethodName) object_method_1_code (1 : Nat) (Option.none : Option Jvm.ClassFile.FieldType)).before args0 about1 = true := code_word (m := ⟨0, 0⟩) (meth := k0m0) (c := k0c0) (by decide +kernel) rfl rfl rfl (by decide +kernel)
set_option maxRecDepth 65536 in
theorem w_c3 : (Jvm.Cond.code ({ cls := "com/example/chronoquorum/chronoquorum/LiveNodes", name := "positionOf", desc := "(I)I" } : Jvm.MethodName) prog_14_method_4_code (2 : Nat) (Option.some Jvm.ClassFile.FieldType.int)).before args0 about1 = true := code_word (m := ⟨2, 1⟩) (meth := k2m1) (c := k2c1) (by decide +kernel) rfl rfl rfl (by decide +kernel)
set_option maxRecDepth 65536 in
theorem w_c4 : (Jvm.Cond.code ({ cls := "com/example/chronoquorum/chronoquorum/LiveNodesPositionOfPinLaw", name := "expected", desc := "(IIZIZ)I" } : Jvm.MethodName) method_3_code (6 : Nat) (Option.some Jvm.ClassFile.FieldType.int)).before args0 about1 = true := code_word (m := ⟨1, 2⟩) (meth := k1m2) (c := k1c2) (by decide +kernel) rfl rfl rfl (by decide +kernel)
set_option maxRecDepth 65536 in
theorem w_c5 : (Jvm.Cond.code ({ cls := "com/example/chronoquorum/chronoquorum/LiveNodes", name := "join", desc := "()I" } : Jvm.MethodName) prog_14_method_7_code (2 : Nat) (Option.some Jvm.ClassFile.FieldType.int)).before args0 about1 = true := code_word (m := ⟨2, 4⟩) (meth := k2m4) (c := k2c4) (by decide +kernel) rfl rfl rfl (by decide +kernel)
set_option maxRecDepth 65536 in
theorem w_c6 : (Jvm.Cond.code ({ cls := "java/lang/Math", name := "incrementExact", desc := "(I)I" } : Jvm.MethodName) jdk_29_method_37_code (1 : Nat) (Option.some Jvm.ClassFile.FieldType.int)).before args0 about1 = true := code_word (m := ⟨3, 1⟩) (meth := k3m1) (c := k3c1) (by decide +kernel) rfl rfl rfl (by decide +kernel)
set_option maxRecDepth 65536 in
theorem w_c7 : (Jvm.Cond.code ({ cls := "com/example/chronoquorum/chronoquorum/LiveNodes", name := "leave", desc := "(I)V" } : Jvm.MethodName) prog_14_method_8_code (4 : Nat) (Option.none : Option Jvm.ClassFile.FieldType)).before args0 about1 = true := code_word (m := ⟨2, 5⟩) (meth := k2m5) (c := k2c5) (by decide +kernel) rfl rfl rfl (by decide +kernel)
set_option maxRecDepth 65536 in
theorem w_c8 : (Jvm.Cond.code ({ cls := "com/example/chronoquorum/chronoquorum/LiveNodes", name := "requireLive", desc := "(I)V" } : Jvm.MethodName) prog_14_method_6_code (2 : Nat) (Option.none : Option Jvm.ClassFile.FieldType)).before args0 about1 = true := code_word (m := ⟨2, 3⟩) (meth := k2m3) (c := k2c3) (by decide +kernel) rfl rfl rfl (by decide +kernel)
set_option maxRecDepth 65536 in
theorem w_c9 : (Jvm.Cond.code ({ cls := "com/example/chronoquorum/chronoquorum/LiveNodes", name := "contains", desc := "(I)Z" } : Jvm.MethodName) prog_14_method_5_code (2 : Nat) (Option.some Jvm.ClassFile.FieldType.boolean)).before args0 about1 = true := code_word (m := ⟨2, 2⟩) (meth := k2m2) (c := k2c2) (by decide +kernel) rfl rfl rfl (by decide +kernel)
set_option maxRecDepth 65536 in
theorem w_c10 : (Jvm.Cond.code ({ cls := "java/util/Arrays", name := "copyOf", desc := "([II)[I" } : Jvm.MethodName) jdk_65_method_123_code (3 : Nat) (Option.some (Jvm.ClassFile.FieldType.array Jvm.ClassFile.FieldType.int))).before args0 about1 = true := code_word (m := ⟨4, 1⟩) (meth := k4m1) (c := k4c1) (by decide +kernel) rfl rfl rfl (by decide +kernel)
set_option maxRecDepth 65536 in
theorem w_c11 : (Jvm.Cond.code ({ cls := "java/lang/Math", name := "min", desc := "(II)I" } : Jvm.MethodName) jdk_29_method_69_code (2 : Nat) (Option.some Jvm.ClassFile.FieldType.int)).before args0 about1 = true := code_word (m := ⟨3, 3⟩) (meth := k3m3) (c := k3c3) (by decide +kernel) rfl rfl rfl (by decide +kernel)
set_option maxRecDepth 65536 in
theorem w_c12 : (Jvm.Cond.code ({ cls := "java/lang/Math", name := "max", desc := "(II)I" } : Jvm.MethodName) jdk_29_method_65_code (2 : Nat) (Option.some Jvm.ClassFile.FieldType.int)).before args0 about1 = true := code_word (m := ⟨3, 2⟩) (meth := k3m2) (c := k3c2) (by decide +kernel) rfl rfl rfl (by decide +kernel)
def codes1 : List Jvm.Cond := [Jvm.Cond.code x code maxLocals ret, Jvm.Cond.code ({ cls := "com/example/chronoquorum/chronoquorum/LiveNodes", name := "<init>", desc := "(I)V" } : Jvm.MethodName) prog_14_method_1_code (3 : Nat) (Option.none : Option Jvm.ClassFile.FieldType), Jvm.Cond.code ({ cls := "java/lang/Object", name := "<init>", desc := "()V" } : Jvm.MethodName) object_method_1_code (1 : Nat) (Option.none : Option Jvm.ClassFile.FieldType), Jvm.Cond.code ({ cls := "com/example/chronoquorum/chronoquorum/LiveNodes", name := "positionOf", desc := "(I)I" } : Jvm.MethodName) prog_14_method_4_code (2 : Nat) (Option.some Jvm.ClassFile.FieldType.int), Jvm.Cond.code ({ cls := "com/example/chronoquorum/chronoquorum/LiveNodesPositionOfPinLaw", name := "expected", desc := "(IIZIZ)I" } : Jvm.MethodName) method_3_code (6 : Nat) (Option.some Jvm.ClassFile.FieldType.int), Jvm.Cond.code ({ cls := "com/example/chronoquorum/chronoquorum/LiveNodes", name := "join", desc := "()I" } : Jvm.MethodName) prog_14_method_7_code (2 : Nat) (Option.some Jvm.ClassFile.FieldType.int), Jvm.Cond.code ({ cls := "java/lang/Math", name := "incrementExact", desc := "(I)I" } : Jvm.MethodName) jdk_29_method_37_code (1 : Nat) (Option.some Jvm.ClassFile.FieldType.int), Jvm.Cond.code ({ cls := "com/example/chronoquorum/chronoquorum/LiveNodes", name := "leave", desc := "(I)V" } : Jvm.MethodName) prog_14_method_8_code (4 : Nat) (Option.none : Option Jvm.ClassFile.FieldType), Jvm.Cond.code ({ cls := "com/example/chronoquorum/chronoquorum/LiveNodes", name := "requireLive", desc := "(I)V" } : Jvm.MethodName) prog_14_method_6_code (2 : Nat) (Option.none : Option Jvm.ClassFile.FieldType), Jvm.Cond.code ({ cls := "com/example/chronoquorum/chronoquorum/LiveNodes", name := "contains", desc := "(I)Z" } : Jvm.MethodName) prog_14_method_5_code (2 : Nat) (Option.some Jvm.ClassFile.FieldType.boolean), Jvm.Cond.code ({ cls := "java/util/Arrays", name := "copyOf", desc := "([II)[I" } : Jvm.MethodName) jdk_65_method_123_code (3 : Nat) (Option.some (Jvm.ClassFile.FieldType.array Jvm.ClassFile.FieldType.int)), Jvm.Cond.code ({ cls := "java/lang/Math", name := "min", desc := "(II)I" } : Jvm.MethodName) jdk_29_method_69_code (2 : Nat) (Option.some Jvm.ClassFile.FieldType.int), Jvm.Cond.code ({ cls := "java/lang/Math", name := "max", desc := "(II)I" } : Jvm.MethodName) jdk_29_method_65_code (2 : Nat) (Option.some Jvm.ClassFile.FieldType.int)]
set_option maxRecDepth 65536 in
theorem codes_eq : words1.filter isCode = codes1 := rfl
theorem w_codes : ∀ c ∈ words1.filter isCode, c.before args0 about1 = true := by
  rw [codes_eq]
  intro c hc
  simp only [codes1, List.mem_cons, List.not_mem_nil, or_false] at hc
  rcases hc with rfl | rfl | rfl | rfl | rfl | rfl | rfl | rfl | rfl | rfl | rfl | rfl | rfl
  · exact w_c0
  · exact w_c1
  · exact w_c2
  · exact w_c3
  · exact w_c4
  · exact w_c5
  · exact w_c6
  · exact w_c7
  · exact w_c8
  · exact w_c9
  · exact w_c10
  · exact w_c11
  · exact w_c12
set_option maxRecDepth 65536 in
theorem w_t1 : (words1.take 24).all (fun c => isCode c || c.before args0 about1) = true := by decide +kernel
set_option maxRecDepth 65536 in
theorem w_t2 : ((words1.drop 24).take 24).all (fun c => isCode c || c.before args0 about1) = true := by decide +kernel
set_option maxRecDepth 65536 in
theorem w_t3 : ((words1.drop 24).drop 24).all (fun c => isCode c || c.before args0 about1) = true := by decide +kernel
theorem w_tables : (allAtoms (Jvm.Cond.code x code maxLocals ret :: tables_1)).before args0 about1 = true := by
  rw [allAtoms_all]
  show words1.all (fun c => c.before args0 about1) = true
  refine all_split ?_ w_codes
  rw [← List.take_append_drop 24 words1, List.all_append, w_t1, ← List.take_append_drop 24 (words1.drop 24), List.all_append, w_t2, w_t3]
  rfl
set_option maxRecDepth 65536 in
theorem w_case : (Jvm.Cond.and given_1 narrow_1).before args0 about1 = true := by decide +kernel
theorem w_applies : (headSpec (Jvm.Cond.code x code maxLocals ret :: tables_1) room_1).applies x e0.platform about1 = true :=
  (Spec.applies_iff w_frames).mpr ⟨w_running, w_runnable, w_alone, w_named, w_hears, w_ripe, w_room, w_tables⟩
theorem atStart : AtStart classFile x code maxLocals ret World_1 tables_1 room_1 Calls_1 rest_1 Pre_1 launch0 p0 e0 about1 theMethod args0 below0 :=
  ⟨lists_1, trivial, launch0.admits_env _ _ _, launch0.least_env, fairChoices_fair.cas, fairChoices_fair.clock, w_frames, w_args, w_heap, w_applies, trivial, trivial, w_case⟩
end start1
theorem witness_1 : WitnessClaimed_1 := ⟨start1.p0, start1.e0, start1.about1, start1.theMethod, start1.args0, start1.below0, start1.atStart⟩
end Jvm.Pilot.@@N@@
