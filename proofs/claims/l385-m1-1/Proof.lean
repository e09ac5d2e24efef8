import JvmDerived
import JvmDerived.Pilot.@@N@@Statement
import JvmDerived.Pilot.@@N@@Code
set_option linter.unusedVariables false
set_option linter.unusedSimpArgs false
namespace Jvm.Pilot.@@N@@
open Jvm Jvm.ClassFile Sem Op Lib Jvm.Free Jvm.Stand Jvm.LawKit Jvm.RoadKit Bundle Jvm.Pilot.@@N@@.Jvm.D
abbrev oU : Slot := .unset
abbrev oS : Slot := .second
abbrev oN : Slot := .val .null
abbrev oI (x : Int32) : Slot := .val (.int x)
abbrev oJ (x : Int64) : Slot := .val (.long x)
abbrev oR (a : Addr) : Slot := .val (.ref a)
section Own
variable {p : Program} {l : Launch} {e : Env} {R : Room} {s : State} {m : MethodId} {args : Array Value} {below : List Frame} {meth : Method} {c : Code} {T : State} {locs : List Loc} {cells slots : Nat} {Q : Option Value → Heap → List Loc → Prop} {kc ks : Nat} {Z : State} {a0 : Array Value} {h : Heap}
/-- from the state st the body comes to its end, and Q holds there -/
def own_Fin (p : Program) (e : Env) (below : List Frame) (s : State) (Q : Option Value → Heap → List Loc → Prop) (kc ks : Nat) (st : State) : Prop :=
  ∃ s₂ o, Steps p.tables e below st s₂ ∧ s₂.status = .running ∧ Ended s₂ below o ∧ ∃ v L, o = .returned v ∧ Q v s₂.heap L ∧ FrameEnd s o s₂ L kc ks
abbrev own_Go (X : Stand p l e R s m args below meth c T locs cells slots) (Q : Option Value → Heap → List Loc → Prop) (kc ks : Nat) (pc : Nat) (Ls : Array Slot) (S : List Value) : Prop := own_Fin p e below s Q kc ks (T.setTop (mkF m pc Ls S))
theorem own_st {a b : State} (hst : ∀ t, Steps p.tables e below b t → Steps p.tables e below a t) (k : own_Fin p e below s Q kc ks b) : own_Fin p e below s Q kc ks a := by
  obtain ⟨s₂, o, h1, r⟩ := k
  exact ⟨s₂, o, hst _ h1, r⟩
theorem own_cast {g g' : JFrame} (q : g = g') (k : own_Fin p e below s Q kc ks (T.setTop g')) : own_Fin p e below s Q kc ks (T.setTop g) := q ▸ k
theorem own_end (X : Stand p l e R s m args below meth c T locs cells slots) {v : Option Value} {a : State} (hv : meth.sig.returnType = none → v = none) (hlocks : meth.locks = false) (eT : T.heap = h)
    (hs : ∀ fs, (∀ (f : JFrame) (acts : List Action), f.method = m → f.locked = none → f.entered = [] → (doReturn e (T.setTop f) acts v).1 = T.setFrames fs) → Steps p.tables e below a (T.setFrames fs))
    (hc : cells ≤ kc) (hl : slots ≤ ks) (hq : Q v h locs) : own_Fin p e below s Q kc ks a := by
  obtain ⟨fs, hr, hrun, hended, hW, hsame⟩ := X.leave hv hlocks
  exact ⟨_, _, hs fs hr, hrun, hended, _, _, rfl, by show Q v T.heap locs; rw [eT]; exact hq, ⟨_, rfl⟩, hW, hsame.mono hc hl⟩
theorem own_retV (X : Stand p l e R s m args below meth c T locs cells slots) (hx : p.tables.exec = Jvm.exec) (hret : meth.sig.returnType = none) (hlocks : meth.locks = false) (eT : T.heap = h) {pc : Nat} {Ls : Array Slot} (hd : decode c.code pc = .ok (.return_, 1)) (hc : cells ≤ kc) (hl : slots ≤ ks) (hq : Q none h locs) :
    own_Fin p e below s Q kc ks (T.setTop (mkF m pc Ls [])) := own_end X (fun _ => rfl) hlocks eT (fun _ hr => X.returnOut hx hret hd hr) hc hl hq
theorem own_retN (X : Stand p l e R s m args below meth c T locs cells slots) (hx : p.tables.exec = Jvm.exec) {t : FieldType} (hret : meth.sig.returnType = some t) (ht : t = .boolean ∨ t = .byte ∨ t = .char ∨ t = .short) (hlocks : meth.locks = false) (eT : T.heap = h) {pc : Nat} {Ls : Array Slot} {z : Int32} {rest : List Value} (hd : decode c.code pc = .ok (.ireturn, 1)) (hc : cells ≤ kc) (hl : slots ≤ ks) (hq : Q (some (.int (nar t z))) h locs) :
    own_Fin p e below s Q kc ks (T.setTop (mkF m pc Ls (.int z :: rest))) := own_end X (fun h => by rw [hret] at h; cases h) hlocks eT (fun _ hr => retN X hx hret ht hd hr) hc hl hq
theorem own_retI (X : Stand p l e R s m args below meth c T locs cells slots) (hx : p.tables.exec = Jvm.exec) (hret : meth.sig.returnType = some .int) (hlocks : meth.locks = false) (eT : T.heap = h) {pc : Nat} {Ls : Array Slot} {z : Int32} {rest : List Value} (hd : decode c.code pc = .ok (.ireturn, 1)) (hc : cells ≤ kc) (hl : slots ≤ ks) (hq : Q (some (.int z)) h locs) :
    own_Fin p e below s Q kc ks (T.setTop (mkF m pc Ls (.int z :: rest))) := own_end X (fun h => by rw [hret] at h; cases h) hlocks eT (fun _ hr => retOut X hx hret rfl (Or.inl ⟨rfl, Or.inl rfl, _, rfl⟩) hd hr) hc hl hq
theorem own_retJ (X : Stand p l e R s m args below meth c T locs cells slots) (hx : p.tables.exec = Jvm.exec) (hret : meth.sig.returnType = some .long) (hlocks : meth.locks = false) (eT : T.heap = h) {pc : Nat} {Ls : Array Slot} {z : Int64} {rest : List Value} (hd : decode c.code pc = .ok (.lreturn, 1)) (hc : cells ≤ kc) (hl : slots ≤ ks) (hq : Q (some (.long z)) h locs) :
    own_Fin p e below s Q kc ks (T.setTop (mkF m pc Ls (.long z :: rest))) := own_end X (fun h => by rw [hret] at h; cases h) hlocks eT (fun _ hr => retOut X hx hret rfl (Or.inr (Or.inl ⟨rfl, rfl, _, rfl⟩)) hd hr) hc hl hq
theorem own_retA (X : Stand p l e R s m args below meth c T locs cells slots) (hx : p.tables.exec = Jvm.exec) {t : FieldType} (hret : meth.sig.returnType = some t) (ht : t.isReference = true) (hlocks : meth.locks = false) (eT : T.heap = h) {pc : Nat} {Ls : Array Slot} {a : Addr} {rest : List Value} (hd : decode c.code pc = .ok (.areturn, 1)) (hc : cells ≤ kc) (hl : slots ≤ ks) (hq : Q (some (.ref a)) h locs) :
    own_Fin p e below s Q kc ks (T.setTop (mkF m pc Ls (.ref a :: rest))) := own_end X (fun h => by rw [hret] at h; cases h) hlocks eT (fun _ hr => retOut X hx hret (by cases t <;> first | rfl | cases ht) (Or.inr (Or.inr (Or.inr (Or.inr ⟨rfl, ht, rfl⟩)))) hd hr) hc hl hq
theorem own_nar1 : nar .boolean 1 = 1 := by decide
theorem own_nar0 : nar .boolean 0 = 0 := by decide
theorem own_lrem {g : JFrame} {target : State} (X : Stand p l e R s m args below meth c T locs cells slots) (hx : p.tables.exec = Jvm.exec) (hg : g.method = m) {x y : Int64} {rest : List Value} (hd : decode c.code g.pc = .ok (.lrem, 1)) (hs : g.stack = .long y :: .long x :: rest) (hy : y ≠ 0)
    (hr : Steps p.tables e below (T.setTop { g with pc := g.pc + 1, stack := .long (x % y) :: rest }) target) : Steps p.tables e below (T.setTop g) target := by
  have q : x - x / y * y = x % y := lrem_mod x y
  exact XS.lrem X.here hx hg hd hs hy (by rw [q]; exact hr)
/-! the calls -/
variable {y z : MethodName} {bytes : ByteArray} {maxL : Nat} {ret : Option FieldType} {rm : Room} {W : Nat} {as' : Array Value} {Qc : Option Value → Heap → List Loc → Prop} {own C : String} {index : Nat}
theorem own_callS (X : Stand p l e R s m args below meth c T locs cells slots) (hx : p.tables.exec = Jvm.exec) (hZ : Z.Warmed39 s.vm) (hown : s.vm.findClass own = some m.cls)
    (wl : (Cond.methodLink own index y).before a0 Z = true) (ws : (Cond.static y).before a0 Z = true) (wz : (Cond.initialized y.cls).before a0 Z = true) (wc : (Cond.code y bytes maxL ret).before a0 Z = true)
    (hy : y.cls ≠ "java/lang/invoke/MethodHandle" ∧ y.cls ≠ "java/lang/invoke/VarHandle")
    (hM : MetFree l y (head1 [Cond.code y bytes maxL ret] rm) (fun a U => a = as' ∧ Z.Warmed39 U.vm ∧ U.heap = h) (fun _ _ _ _ _ => True) (fun _ U o U' => ∃ v L, o = .returned v ∧ Qc v U'.heap L ∧ FrameEnd U o U' L rm.cells rm.slots))
    (hf : rm.frames + 1 ≤ R.frames) (hl : W + (maxL + 11) + rm.locals ≤ R.locals) {pc : Nat} {Ls : Array Slot} {S : List Value} (hsize : Ls.size = c.maxLocals) (argsL rest : List Value)
    (hlen : ∀ sig, parseMethodDescriptor y.desc = some sig → argsL.length = sig.parameters.length) (hS : S = argsL.reverse ++ rest) (ha : argsL.toArray = as') (hW : (rest.map fun v => v.category).sum ≤ W)
    (hd : decode c.code pc = .ok (.invokestatic index, 3)) (eT : T.heap = h) (hcl : cells + rm.cells ≤ R.cells) (hsl : slots + rm.slots ≤ R.slots)
    (k : ∀ (v : Option Value) (T' : State) (L' : List Loc) (X' : Stand p l e R s m args below meth c T' (locs ++ L') (cells + rm.cells) (slots + rm.slots)), Qc v T'.heap L' → own_Fin p e below s Q kc ks (T'.setTop (mkF m (pc + 3) Ls (v.toList ++ rest)))) :
    own_Fin p e below s Q kc ks (T.setTop (mkF m pc Ls S)) := by
  subst hS
  obtain ⟨v, _, ⟨T', L1, k1, n1⟩, -, X', ⟨L', hQ, l1, y1, z1⟩, st⟩ := Jvm.LawKit.callS X hx (y := y) hown (mvT hZ wl) (mvT hZ ws) (mvT hZ wz) (mvT hZ wc) hy (backOf (W := W) hM hZ wc wz hf hl) (g := mkF m pc Ls (argsL.reverse ++ rest)) rfl hsize (argsL := argsL) (rest := rest) hlen rfl (by show 2 * 0 + _ ≤ _; omega) hd (fun _ _ => ⟨ha, eT, hcl, hsl⟩)
  dsimp only [Pt.U, Pt.locs, Pt.cells, Pt.slots] at X' l1 y1 z1 st hQ
  subst l1 y1 z1
  exact own_st (fun t => st t) (k v T' L' X' hQ)
theorem own_callI (X : Stand p l e R s m args below meth c T locs cells slots) (hx : p.tables.exec = Jvm.exec) (hZ : Z.Warmed39 s.vm) (hown : s.vm.findClass own = some m.cls)
    (wl : (Cond.methodLink own index y).before a0 Z = true) (ws : (Cond.instanceMethod y).before a0 Z = true) (wz : (Cond.initialized y.cls).before a0 Z = true) (wc : (Cond.code y bytes maxL none).before a0 Z = true)
    (hn : y.name = "<init>") (hy : y.cls ≠ "java/lang/invoke/MethodHandle" ∧ y.cls ≠ "java/lang/invoke/VarHandle")
    (hM : MetFree l y (head1 [Cond.code y bytes maxL none] rm) (fun a U => a = as' ∧ Z.Warmed39 U.vm ∧ U.heap = h) (fun _ _ _ _ _ => True) (fun _ U o U' => ∃ v L, o = .returned v ∧ Qc v U'.heap L ∧ FrameEnd U o U' L rm.cells rm.slots))
    (hf : rm.frames + 1 ≤ R.frames) (hl : W + (maxL + 11) + rm.locals ≤ R.locals) {pc : Nat} {Ls : Array Slot} {S : List Value} (hsize : Ls.size = c.maxLocals) (a : Addr) (argsL rest : List Value)
    (hlen : ∀ sig, parseMethodDescriptor y.desc = some sig → argsL.length = sig.parameters.length) (hS : S = argsL.reverse ++ .ref a :: rest) (ha : (Value.ref a :: argsL).toArray = as') (hW : (rest.map fun v => v.category).sum ≤ W)
    (hd : decode c.code pc = .ok (.invokespecial index, 3)) (eT : T.heap = h) (hcl : cells + rm.cells ≤ R.cells) (hsl : slots + rm.slots ≤ R.slots)
    (k : ∀ (v : Option Value) (T' : State) (L' : List Loc) (X' : Stand p l e R s m args below meth c T' (locs ++ L') (cells + rm.cells) (slots + rm.slots)), Qc v T'.heap L' → own_Fin p e below s Q kc ks (T'.setTop (mkF m (pc + 3) Ls (v.toList ++ rest)))) :
    own_Fin p e below s Q kc ks (T.setTop (mkF m pc Ls S)) := by
  subst hS
  obtain ⟨v, _, ⟨T', L1, k1, n1⟩, -, X', ⟨L', hQ, l1, y1, z1⟩, st⟩ := X.specialBack hx (y := y) hn hown (mvT hZ wl) (mvT hZ ws) (mvT hZ wc) hy (backOf (W := W) hM hZ wc wz hf hl) (g := mkF m pc Ls (argsL.reverse ++ .ref a :: rest)) rfl hsize (Steps.refl _) (a := a) (argsL := argsL) (rest := rest) hlen rfl (by show 2 * 0 + _ ≤ _; omega) hd (fun _ _ => ⟨ha, eT, hcl, hsl⟩)
  dsimp only [Pt.U, Pt.locs, Pt.cells, Pt.slots] at X' l1 y1 z1 st hQ
  subst l1 y1 z1
  exact own_st (fun t => st.trans) (k v T' L' X' hQ)
theorem own_callV (X : Stand p l e R s m args below meth c T locs cells slots) (hx : p.tables.exec = Jvm.exec) (hZ : Z.Warmed39 s.vm) (hown : s.vm.findClass own = some m.cls)
    (wl : (Cond.methodLink own index y).before a0 Z = true) (wd : (Cond.declares y).before a0 Z = true) (wsel : (Cond.selects C y y).before a0 Z = true) (ws : (Cond.instanceMethod y).before a0 Z = true) (wz : (Cond.initialized y.cls).before a0 Z = true) (wc : (Cond.code y bytes maxL ret).before a0 Z = true)
    (hy : y.cls ≠ "java/lang/invoke/MethodHandle" ∧ y.cls ≠ "java/lang/invoke/VarHandle")
    (hM : MetFree l y (head1 [Cond.code y bytes maxL ret] rm) (fun a U => a = as' ∧ Z.Warmed39 U.vm ∧ U.heap = h) (fun _ _ _ _ _ => True) (fun _ U o U' => ∃ v L, o = .returned v ∧ Qc v U'.heap L ∧ FrameEnd U o U' L rm.cells rm.slots))
    (hf : rm.frames + 1 ≤ R.frames) (hl : W + (maxL + 11) + rm.locals ≤ R.locals) {pc : Nat} {Ls : Array Slot} {S : List Value} (hsize : Ls.size = c.maxLocals) (a : Addr) (argsL rest : List Value)
    (hlen : ∀ sig, parseMethodDescriptor y.desc = some sig → argsL.length = sig.parameters.length) (hS : S = argsL.reverse ++ .ref a :: rest) (ha : (Value.ref a :: argsL).toArray = as') (hW : (rest.map fun v => v.category).sum ≤ W)
    (hd : decode c.code pc = .ok (.invokevirtual index, 3)) (eT : T.heap = h) (EA : Exa Z h a C) (hcl : cells + rm.cells ≤ R.cells) (hsl : slots + rm.slots ≤ R.slots)
    (k : ∀ (v : Option Value) (T' : State) (L' : List Loc) (X' : Stand p l e R s m args below meth c T' (locs ++ L') (cells + rm.cells) (slots + rm.slots)), Qc v T'.heap L' → own_Fin p e below s Q kc ks (T'.setTop (mkF m (pc + 3) Ls (v.toList ++ rest)))) :
    own_Fin p e below s Q kc ks (T.setTop (mkF m pc Ls S)) := by
  subst hS
  obtain ⟨cq, kq, q1, q2, q3⟩ := isOf hZ eT EA
  obtain ⟨v, _, ⟨T', L1, k1, n1⟩, -, X', ⟨L', hQ, l1, y1, z1⟩, st⟩ := X.virtualBack hx (y := y) (z := y) hown (mvT hZ wl) (mvT hZ wd) (notFace_of_selects (args := #[]) (mvT hZ wsel)) (mvT hZ wsel) (mvT hZ ws) hy (backOf (W := W) hM hZ wc wz hf hl) q1 q3 (g := mkF m pc Ls (argsL.reverse ++ .ref a :: rest)) rfl hsize (Steps.refl _) (argsL := argsL) (rest := rest) hlen rfl (by show 2 * 0 + _ ≤ _; omega) hd (fun _ _ => ⟨ha, eT, hcl, hsl⟩)
  dsimp only [Pt.U, Pt.locs, Pt.cells, Pt.slots] at X' l1 y1 z1 st hQ
  subst l1 y1 z1
  exact own_st (fun t => st.trans) (k v T' L' X' hQ)
/-! arrays -/
variable {a : Addr} {kA : ClassId} {n j x : Int32} {vs : List Value} {dv : Value}
theorem own_stI (X : Stand p l e R s m args below meth c T locs cells slots) (hx : p.tables.exec = Jvm.exec) (hZ : Z.Warmed39 s.vm) (eT : T.heap = h) (V : Arv Z h a kA .int n vs dv) (q : ¬ j < 0 ∧ j < n) (hi : j.toNatClampNeg < vs.length) {g : JFrame} (hg : g.method = m) {rest : List Value} (hs : g.stack = .int x :: .int j :: .ref a :: rest) (hd : decode c.code g.pc = .ok (.iastore, 1)) :
    ∃ T' h', Stand p l e R s m args below meth c T' (locs ++ [⟨a, j.toNatClampNeg⟩]) cells slots ∧ T'.heap = h' ∧ Wr h h' a j.toNatClampNeg (.int x) ∧ Arv Z h' a kA .int n (vs.set j.toNatClampNeg (.int x)) dv ∧ ∀ target, Steps p.tables e below (T'.setTop { g with pc := g.pc + 1, stack := rest }) target → Steps p.tables e below (T.setTop g) target := by
  obtain ⟨cl, Ar, q1, S1, N1, H1, G1⟩ := V
  obtain ⟨T', h', X', e', W', st⟩ := stI X hx hZ eT Ar (inb_of S1 q) hg hs hd
  exact ⟨T', h', X', e', W', Arv.set Ar q1 S1 N1 H1 G1 rfl W' _ rfl hi, st⟩
theorem own_stB (X : Stand p l e R s m args below meth c T locs cells slots) (hx : p.tables.exec = Jvm.exec) (hZ : Z.Warmed39 s.vm) (eT : T.heap = h) (V : Arv Z h a kA .byte n vs dv) (q : ¬ j < 0 ∧ j < n) (hi : j.toNatClampNeg < vs.length) {g : JFrame} (hg : g.method = m) {rest : List Value} (hs : g.stack = .int x :: .int j :: .ref a :: rest) (hd : decode c.code g.pc = .ok (.bastore, 1)) :
    ∃ T' h', Stand p l e R s m args below meth c T' (locs ++ [⟨a, j.toNatClampNeg⟩]) cells slots ∧ T'.heap = h' ∧ Wr h h' a j.toNatClampNeg (.int (nar .byte x)) ∧ Arv Z h' a kA .byte n (vs.set j.toNatClampNeg (.int x.toInt8.toInt32)) dv ∧ ∀ target, Steps p.tables e below (T'.setTop { g with pc := g.pc + 1, stack := rest }) target → Steps p.tables e below (T.setTop g) target := by
  obtain ⟨cl, Ar, q1, S1, N1, H1, G1⟩ := V
  obtain ⟨T', h', X', e', W', st⟩ := stB X hx hZ eT Ar (inb_of S1 q) hg hs hd
  exact ⟨T', h', X', e', W', Arv.set Ar q1 S1 N1 H1 G1 (fits_nar_byte x) W' _ rfl hi, st⟩
theorem own_stJ {x : Int64} (X : Stand p l e R s m args below meth c T locs cells slots) (hx : p.tables.exec = Jvm.exec) (hZ : Z.Warmed39 s.vm) (eT : T.heap = h) (V : Arv Z h a kA .long n vs dv) (q : ¬ j < 0 ∧ j < n) (hi : j.toNatClampNeg < vs.length) {g : JFrame} (hg : g.method = m) {rest : List Value} (hs : g.stack = .long x :: .int j :: .ref a :: rest) (hd : decode c.code g.pc = .ok (.lastore, 1)) :
    ∃ T' h', Stand p l e R s m args below meth c T' (locs ++ [⟨a, j.toNatClampNeg⟩]) cells slots ∧ T'.heap = h' ∧ Wr h h' a j.toNatClampNeg (.long x) ∧ Arv Z h' a kA .long n (vs.set j.toNatClampNeg (.long x)) dv ∧ ∀ target, Steps p.tables e below (T'.setTop { g with pc := g.pc + 1, stack := rest }) target → Steps p.tables e below (T.setTop g) target := by
  obtain ⟨cl, Ar, q1, S1, N1, H1, G1⟩ := V
  obtain ⟨T', h', X', e', W', st⟩ := stJ X hx hZ eT Ar (inb_of S1 q) hg hs hd
  exact ⟨T', h', X', e', W', Arv.set Ar q1 S1 N1 H1 G1 rfl W' _ rfl hi, st⟩
theorem own_ldI (X : Stand p l e R s m args below meth c T locs cells slots) (hx : p.tables.exec = Jvm.exec) (hZ : Z.Warmed39 s.vm) (eT : T.heap = h) (V : Arv Z h a kA .int n vs dv) (q : ¬ j < 0 ∧ j < n) {v : Value} (hv : vs.getD j.toNatClampNeg dv = v) {g : JFrame} (hg : g.method = m) {rest : List Value} (hs : g.stack = .int j :: .ref a :: rest) (hd : decode c.code g.pc = .ok (.iaload, 1)) :
    ∀ target, Steps p.tables e below (T.setTop { g with pc := g.pc + 1, stack := v :: rest }) target → Steps p.tables e below (T.setTop g) target := by
  obtain ⟨cl, Ar, q1, S1, N1, H1, G1⟩ := V
  exact X.iaload hx (by rw [eT]; exact Ar.1) (State.isArrayOf_alike hZ.alike Ar.2.1) Ar.2.2 (inb_of S1 q) (H1.at (inb_of S1 q) hv) hg hs hd
theorem own_ldB (X : Stand p l e R s m args below meth c T locs cells slots) (hx : p.tables.exec = Jvm.exec) (hZ : Z.Warmed39 s.vm) (eT : T.heap = h) (V : Arv Z h a kA .byte n vs dv) (q : ¬ j < 0 ∧ j < n) {v : Value} (hv : vs.getD j.toNatClampNeg dv = v) {g : JFrame} (hg : g.method = m) {rest : List Value} (hs : g.stack = .int j :: .ref a :: rest) (hd : decode c.code g.pc = .ok (.baload, 1)) :
    ∀ target, Steps p.tables e below (T.setTop { g with pc := g.pc + 1, stack := v :: rest }) target → Steps p.tables e below (T.setTop g) target := by
  obtain ⟨cl, Ar, q1, S1, N1, H1, G1⟩ := V
  exact X.baloadBytes hx (by rw [eT]; exact Ar.1) (State.isArrayOf_alike hZ.alike Ar.2.1) Ar.2.2 (inb_of S1 q) (H1.at (inb_of S1 q) hv) hg hs hd
theorem own_ldJ (X : Stand p l e R s m args below meth c T locs cells slots) (hx : p.tables.exec = Jvm.exec) (hZ : Z.Warmed39 s.vm) (eT : T.heap = h) (V : Arv Z h a kA .long n vs dv) (q : ¬ j < 0 ∧ j < n) {v : Value} (hv : vs.getD j.toNatClampNeg dv = v) {g : JFrame} (hg : g.method = m) {rest : List Value} (hs : g.stack = .int j :: .ref a :: rest) (hd : decode c.code g.pc = .ok (.laload, 1)) :
    ∀ target, Steps p.tables e below (T.setTop { g with pc := g.pc + 1, stack := v :: rest }) target → Steps p.tables e below (T.setTop g) target := by
  obtain ⟨cl, Ar, q1, S1, N1, H1, G1⟩ := V
  exact X.laload hx (by rw [eT]; exact Ar.1) (State.isArrayOf_alike hZ.alike Ar.2.1) Ar.2.2 (inb_of S1 q) (H1.at (inb_of S1 q) hv) hg hs hd
theorem own_len {ty : FieldType} (X : Stand p l e R s m args below meth c T locs cells slots) (hx : p.tables.exec = Jvm.exec) (hZ : Z.Warmed39 s.vm) (eT : T.heap = h) (V : Arv Z h a kA ty n vs dv) {g : JFrame} (hg : g.method = m) {rest : List Value} (hs : g.stack = .ref a :: rest) (hd : decode c.code g.pc = .ok (.arraylength, 1)) :
    ∀ target, Steps p.tables e below (T.setTop { g with pc := g.pc + 1, stack := .int n :: rest }) target → Steps p.tables e below (T.setTop g) target := by
  obtain ⟨cl, Ar, q1, S1, N1, H1, G1⟩ := V
  intro t k
  refine X.arraylength hx (by rw [eT]; exact Ar.1) (State.isArrayOf_alike hZ.alike Ar.2.1) hg hs hd t ?_
  rw [len_of S1 N1]; exact k
end Own

def own_dig (n pk : Int64) : Int32 := (((((48 : Int64) - ((n / pk) % (10 : Int64))).toInt32).toInt8.toInt32).toInt8.toInt32)
def own_put (vs : List Value) (at_ k m : Int32) (n pk : Int64) : List Value := if k < m then vs.set at_.toNatClampNeg (.int (own_dig n pk)) else vs
def own_p10 (k : Nat) : Int64 := Int64.ofNat (10 ^ k)
def own_puts (w : List Value) (la m : Int32) (n : Int64) : Nat → List Value
  | 0 => w
  | k + 1 => own_put (own_puts w la m n k) (la - Int32.ofNat k) (Int32.ofNat k) m n (own_p10 k)
def own_ng (f : Nat → Int32) (len : Int32) : Int32 := if (0 : Int32) < len then (if f 0 = (45 : Int32) then 1 else 0) else 0
def own_sta (ng : Int32) : Int32 := if ng = (0 : Int32) then 0 else 1
def own_sc (f : Nat → Int32) : Nat → Nat → Int64 → Option Int64
  | 0, _, s => some s
  | k + 1, i, s => if (f i - (48 : Int32)) < (0 : Int32) then none else if (9 : Int32) < (f i - (48 : Int32)) then none else if s < (((-9223372036854775808 : Int64) + (f i - (48 : Int32)).toInt64) / (10 : Int64)) then none else own_sc f k (i + 1) ((s * (10 : Int64)) - (f i - (48 : Int32)).toInt64)
def own_fend (ng : Int32) (mn mx : Int64) : Option Int64 → Int32
  | none => 0
  | some s => if ng = (0 : Int32) then (if s = (-9223372036854775808 : Int64) then 0 else if mx < (-s) then 0 else 1) else (if s < mn then 0 else 1)
def own_ii (f : Nat → Int32) (len : Int32) (mn mx : Int64) : Int32 := if own_sta (own_ng f len) = len then 0 else own_fend (own_ng f len) mn mx (own_sc f (len.toInt - (own_sta (own_ng f len)).toInt).toNat (own_sta (own_ng f len)).toInt.toNat (0 : Int64))
theorem own_stab {f : Nat → Int32} {len : Int32} (hl : 0 ≤ len.toInt) : 0 ≤ (own_sta (own_ng f len)).toInt ∧ (own_sta (own_ng f len)).toInt ≤ len.toInt := by
  have e0 : (0 : Int32).toInt = 0 := by decide
  have e1 : (1 : Int32).toInt = 1 := by decide
  unfold own_sta own_ng
  by_cases q : (0 : Int32) < len
  · rw [if_pos q]
    rw [Int32.lt_iff_toInt_lt, e0] at q
    have k1 : (if (1 : Int32) = (0 : Int32) then (0 : Int32) else 1) = 1 := by decide
    have k0 : (if (0 : Int32) = (0 : Int32) then (0 : Int32) else 1) = 0 := by decide
    by_cases c : f 0 = (45 : Int32)
    · rw [if_pos c, k1, e1]; omega
    · rw [if_neg c, k0, e0]; omega
  · have k0 : (if (0 : Int32) = (0 : Int32) then (0 : Int32) else 1) = 0 := by decide
    rw [if_neg q, k0, e0]; omega
theorem own_scs {f : Nat → Int32} {k i : Nat} {s : Int64} (h1 : ¬ (f i - (48 : Int32)) < (0 : Int32)) (h2 : ¬ (9 : Int32) < (f i - (48 : Int32))) (h3 : ¬ s < (((-9223372036854775808 : Int64) + (f i - (48 : Int32)).toInt64) / (10 : Int64))) : own_sc f (k + 1) i s = own_sc f k (i + 1) ((s * (10 : Int64)) - (f i - (48 : Int32)).toInt64) := by
  show (if _ then _ else _) = _
  rw [if_neg h1, if_neg h2, if_neg h3]
theorem own_sc1 {f : Nat → Int32} {k i : Nat} {s : Int64} (h1 : (f i - (48 : Int32)) < (0 : Int32)) : own_sc f (k + 1) i s = none := by
  show (if _ then _ else _) = _
  rw [if_pos h1]
theorem own_sc2 {f : Nat → Int32} {k i : Nat} {s : Int64} (h1 : ¬ (f i - (48 : Int32)) < (0 : Int32)) (h2 : (9 : Int32) < (f i - (48 : Int32))) : own_sc f (k + 1) i s = none := by
  show (if _ then _ else _) = _
  rw [if_neg h1, if_pos h2]
theorem own_sc3 {f : Nat → Int32} {k i : Nat} {s : Int64} (h1 : ¬ (f i - (48 : Int32)) < (0 : Int32)) (h2 : ¬ (9 : Int32) < (f i - (48 : Int32))) (h3 : s < (((-9223372036854775808 : Int64) + (f i - (48 : Int32)).toInt64) / (10 : Int64))) : own_sc f (k + 1) i s = none := by
  show (if _ then _ else _) = _
  rw [if_neg h1, if_neg h2, if_pos h3]
theorem own_ixn {i n : Int32} {k : Nat} (h0 : 0 ≤ i.toInt) (hk : i.toInt + (k + 1 : Nat) = n.toInt) (hn : n.toInt ≤ 22) : (¬ i < 0 ∧ i < (22 : Int32)) ∧ i < n ∧ i.toNatClampNeg = i.toInt.toNat ∧ i.toInt.toNat < 22 ∧ (i + (1 : Int32)).toInt = i.toInt + 1 := by
  have e0 : (0 : Int32).toInt = 0 := by decide
  have e1 : (1 : Int32).toInt = 1 := by decide
  have e22 : (22 : Int32).toInt = 22 := by decide
  have a := c_iadd i 1
  have r := rng32 (i + 1)
  rw [e1] at a
  simp only [Int32.lt_iff_toInt_lt, e0, e22]
  exact ⟨⟨by omega, by omega⟩, by omega, rfl, by omega, by omega⟩
theorem own_len22 {w : List Value} {la m : Int32} {n : Int64} (h : w.length = 22) (k : Nat) : (own_puts w la m n k).length = 22 := by
  induction k with
  | zero => exact h
  | succ k ih =>
    show (own_put _ _ _ _ _ _).length = 22
    unfold own_put
    split
    · rw [List.length_set]; exact ih
    · exact ih

def own_zero : List Value := [(.int (0 : Int32)), (.int (0 : Int32)), (.int (0 : Int32)), (.int (0 : Int32)), (.int (0 : Int32)), (.int (0 : Int32)), (.int (0 : Int32)), (.int (0 : Int32)), (.int (0 : Int32)), (.int (0 : Int32)), (.int (0 : Int32)), (.int (0 : Int32)), (.int (0 : Int32)), (.int (0 : Int32)), (.int (0 : Int32)), (.int (0 : Int32)), (.int (0 : Int32)), (.int (0 : Int32)), (.int (0 : Int32)), (.int (0 : Int32)), (.int (0 : Int32)), (.int (0 : Int32))]
def own_w0 (ng : Int32) : List Value := if ng = (0 : Int32) then own_zero else own_zero.set 0 (.int (45 : Int32))
def own_ed (ee : Int32) : Int32 := ((((48 : Int32) + ee).toInt8.toInt32).toInt8.toInt32)
def own_w1 (ng he ee : Int32) : List Value := if he = (0 : Int32) then own_w0 ng else (own_w0 ng).set ng.toNatClampNeg (.int (own_ed ee))
def own_so (ng ln : Int32) : Int32 := if ng < ln then 1 else 0
def own_dg (cc : Int32) : Int32 := if cc < (48 : Int32) then 0 else if (57 : Int32) < cc then 0 else 1
def own_co (cr so dg ps cc : Int32) : Int32 := if cr = (0 : Int32) then 0 else if so = (0 : Int32) then 0 else if dg = (0 : Int32) then (if ps = (0 : Int32) then (if cc = (45 : Int32) then 0 else 1) else 1) else 0
def own_w3 (w : List Value) (co ps cc : Int32) : List Value := if co = (0 : Int32) then w else w.set ps.toNatClampNeg (.int cc.toInt8.toInt32)
def own_rr (nn : Int64) (mm : Int32) : Int64 := if mm = (19 : Int32) then nn else nn % own_p10 mm.toInt.toNat
def own_tv (he ee mm : Int32) : Int64 := if mm = (19 : Int32) then 0 else if he = (0 : Int32) then (0 : Int32).toInt64 * own_p10 mm.toInt.toNat else ee.toInt64 * own_p10 mm.toInt.toNat
def own_fi (he ee mm : Int32) (rr tv : Int64) : Int32 := if mm = (19 : Int32) then (if he = (0 : Int32) then 1 else if ee = (0 : Int32) then 1 else 0) else if rr < ((-9223372036854775808 : Int64) + tv) then 0 else 1
def own_ir (ng : Int32) (mn mx lw : Int64) : Int32 := if ng = (0 : Int32) then (if lw = (-9223372036854775808 : Int64) then 0 else if (-lw) < mn then 0 else if mx < (-lw) then 0 else 1) else if lw < mn then 0 else if mx < lw then 0 else 1
def own_ex (so co fi ir : Int32) : Int32 := if so = (0 : Int32) then 0 else if co = (0 : Int32) then (if fi = (0 : Int32) then 0 else if ir = (0 : Int32) then 0 else 1) else 0
theorem own_bool {b : Prop} [Decidable b] {x : Int32} (h : x = if b then 0 else 1) : x = 0 ∨ x = 1 := by
  subst h; by_cases q : b
  · rw [if_pos q]; exact Or.inl rfl
  · rw [if_neg q]; exact Or.inr rfl
theorem own_mn1 {x : Int64} (h : x < (0 : Int64)) : x.toInt ≤ 0 := by
  rw [Int64.lt_iff_toInt_lt] at h
  have e : (0 : Int64).toInt = 0 := by decide
  omega
theorem own_mn2 {x : Int64} (h : ¬ x < (0 : Int64)) : (-x).toInt ≤ 0 := by
  rw [Int64.lt_iff_toInt_lt] at h
  have e : (0 : Int64).toInt = 0 := by decide
  have n := c_lneg x
  have r := rng64 x
  have r2 := rng64 (-x)
  omega
theorem own_mx1 {x : Int64} (h : ¬ x < (0 : Int64)) : 0 ≤ x.toInt := by
  rw [Int64.lt_iff_toInt_lt] at h
  have e : (0 : Int64).toInt = 0 := by decide
  omega
theorem own_mx2 {x : Int64} (h : x < (0 : Int64)) : 0 ≤ (x ^^^ (-1 : Int64)).toInt := by
  have q : ¬ (x ^^^ (-1 : Int64)) < 0 := by
    rw [Jvm.Free.XT.xor_neg64]
    have : (-1 : Int64) < 0 := by decide
    simp [h, this]
  exact own_mx1 q
theorem own_e9 {a e : Int32} (h : (((a.toUInt32 >>> ((2 : Int32) &&& 31).toUInt32).toInt32) &&& (15 : Int32)) % (10 : Int32) = e) : 0 ≤ e.toInt ∧ e.toInt ≤ 9 := by
  subst h
  have h1 := c_mask ((a.toUInt32 >>> ((2 : Int32) &&& 31).toUInt32).toInt32) 15 4 (by decide) (by decide)
  have h2 := (c_irem (((a.toUInt32 >>> ((2 : Int32) &&& 31).toUInt32).toInt32) &&& (15 : Int32)) 10 10 (by decide)).1 (by omega)
  omega
theorem own_m19 {a e : Int32} (h : (((a.toUInt32 >>> ((6 : Int32) &&& 31).toUInt32).toInt32) &&& (31 : Int32)) % (20 : Int32) = e) : 0 ≤ e.toInt ∧ e.toInt ≤ 19 := by
  subst h
  have h1 := c_mask ((a.toUInt32 >>> ((6 : Int32) &&& 31).toUInt32).toInt32) 31 5 (by decide) (by decide)
  have h2 := (c_irem (((a.toUInt32 >>> ((6 : Int32) &&& 31).toUInt32).toInt32) &&& (31 : Int32)) 20 20 (by decide)).1 (by omega)
  omega
theorem own_01 {x : Int32} (h : x = 0 ∨ x = 1) : 0 ≤ x.toInt ∧ x.toInt ≤ 1 := by rcases h with rfl | rfl <;> decide
theorem own_bsv {ng he bs : Int32} (h1 : ng = 0 ∨ ng = 1) (h2 : he = 0 ∨ he = 1) (h : ng + he = bs) : bs.toInt = ng.toInt + he.toInt := by
  subst h; rcases h1 with rfl | rfl <;> rcases h2 with rfl | rfl <;> decide
theorem own_lnv {bs mm ln : Int32} (h1 : 0 ≤ bs.toInt ∧ bs.toInt ≤ 2) (h2 : 0 ≤ mm.toInt ∧ mm.toInt ≤ 19) (h : bs + mm = ln) : ln.toInt = bs.toInt + mm.toInt := by
  subst h
  have a := c_iadd bs mm
  have r := rng32 (bs + mm)
  omega
theorem own_lav {bs mm la : Int32} (h1 : 0 ≤ bs.toInt ∧ bs.toInt ≤ 2) (h2 : 0 ≤ mm.toInt ∧ mm.toInt ≤ 19) (h : (bs + mm) - (1 : Int32) = la) : la.toInt = bs.toInt + mm.toInt - 1 := by
  subst h
  have a := c_iadd bs mm
  have r := rng32 (bs + mm)
  have a2 := c_isub (bs + mm) 1
  have r2 := rng32 ((bs + mm) - 1)
  have e1 : (1 : Int32).toInt = 1 := by decide
  rw [e1] at a2
  omega
theorem own_l0 (ng : Int32) : (own_w0 ng).length = 22 := by
  unfold own_w0; split
  · rfl
  · rw [List.length_set]; rfl
theorem own_l1 (ng he ee : Int32) : (own_w1 ng he ee).length = 22 := by
  unfold own_w1; split
  · exact own_l0 _
  · rw [List.length_set]; exact own_l0 _
theorem own_nn {i : Int32} {n : Nat} (h0 : 0 ≤ i.toInt) (h1 : i.toInt < n) : i.toNatClampNeg < n := by
  simp only [Int32.toNatClampNeg]; omega
theorem own_in22 {i : Int32} (h0 : 0 ≤ i.toInt) (h1 : i.toInt < 22) : ¬ i < 0 ∧ i < (22 : Int32) := by
  have e0 : (0 : Int32).toInt = 0 := by decide
  have e22 : (22 : Int32).toInt = 22 := by decide
  simp only [Int32.lt_iff_toInt_lt, e0, e22]; omega
theorem own_at {la mm k : Int32} {bs : Int} {kk : Int} {w : List Value} (hw : w.length = 22) (hb : 0 ≤ bs ∧ bs ≤ 2) (hm : 0 ≤ mm.toInt ∧ mm.toInt ≤ 19) (hl : la.toInt = bs + mm.toInt - 1) (hk : k.toInt = kk) (h0 : 0 ≤ kk) (h : k < mm) : (¬ (la - k) < 0 ∧ (la - k) < (22 : Int32)) ∧ (la - k).toNatClampNeg < w.length := by
  rw [Int32.lt_iff_toInt_lt, hk] at h
  have a := c_isub la k
  have r := rng32 (la - k)
  rw [hk] at a
  exact ⟨own_in22 (by omega) (by omega), by rw [hw]; exact own_nn (by omega) (by omega)⟩
theorem own_at0 {la mm : Int32} {bs : Int} {w : List Value} (hw : w.length = 22) (hb : 0 ≤ bs ∧ bs ≤ 2) (hm : 0 ≤ mm.toInt ∧ mm.toInt ≤ 19) (hl : la.toInt = bs + mm.toInt - 1) (h : (0 : Int32) < mm) : (¬ la < 0 ∧ la < (22 : Int32)) ∧ la.toNatClampNeg < w.length := by
  have e0 : (0 : Int32).toInt = 0 := by decide
  rw [Int32.lt_iff_toInt_lt, e0] at h
  exact ⟨own_in22 (by omega) (by omega), by rw [hw]; exact own_nn (by omega) (by omega)⟩
theorem own_psv {wh ng ln ps : Int32} (h0 : 0 ≤ ng.toInt) (h1 : ln.toInt ≤ 22) (hlt : ng < ln) (h : ng + ((wh &&& (2147483647 : Int32)) % (ln - ng)) = ps) : ng.toInt ≤ ps.toInt ∧ ps.toInt < ln.toInt := by
  rw [Int32.lt_iff_toInt_lt] at hlt
  have a := c_isub ln ng
  have r := rng32 (ln - ng)
  have k0 : 0 ≤ (wh &&& (2147483647 : Int32)).toInt := by rw [c_mask wh 2147483647 31 (by decide) (by decide)]; omega
  have k := (c_iremV (wh &&& (2147483647 : Int32)) (ln - ng)).1 k0 (by omega)
  have b := c_iadd ng ((wh &&& (2147483647 : Int32)) % (ln - ng))
  have r2 := rng32 (ng + ((wh &&& (2147483647 : Int32)) % (ln - ng)))
  rw [h] at b r2
  omega
theorem own_dnz {ng ln : Int32} (h0 : 0 ≤ ng.toInt) (h1 : ln.toInt ≤ 22) (hlt : ng < ln) : (ln - ng) ≠ 0 := fun q => by
  rw [Int32.lt_iff_toInt_lt] at hlt
  have a := c_isub ln ng
  have r := rng32 (ln - ng)
  rw [q] at a
  have e0 : (0 : Int32).toInt = 0 := by decide
  omega
theorem own_sof {ng ln : Int32} (h : ¬ own_so ng ln = (0 : Int32)) : ng < ln := by
  unfold own_so at h
  by_cases q : ng < ln
  · exact q
  · rw [if_neg q] at h; exact absurd rfl h
theorem own_cof {cr so dg ps cc : Int32} (h : ¬ own_co cr so dg ps cc = (0 : Int32)) : ¬ so = 0 ∧ dg = 0 ∧ ¬ (ps = 0 ∧ cc = 45) := by
  unfold own_co at h
  split at h
  · exact absurd rfl h
  · rename_i q1
    split at h
    · exact absurd rfl h
    · rename_i q2
      split at h
      · rename_i q3
        refine ⟨q2, q3, ?_⟩
        rintro ⟨a, b⟩
        rw [if_pos a, if_pos b] at h
        exact h rfl
      · exact absurd rfl h
def own_fb (vs : List Value) (j : Nat) : Int32 := match vs.getD j (.int (0 : Int32)) with | .int x => x | _ => 0
def own_AI (vs : List Value) : Prop := ∀ j, ∃ x, vs.getD j (.int (0 : Int32)) = .int x
theorem own_fbv {vs : List Value} {j : Nat} {x : Int32} (h : vs.getD j (.int (0 : Int32)) = .int x) : own_fb vs j = x := by unfold own_fb; rw [h]
theorem own_fbs {vs : List Value} (h : own_AI vs) : ∀ j, j < 22 → vs.getD j (.int (0 : Int32)) = .int (own_fb vs j) := fun j _ => by
  obtain ⟨x, e⟩ := h j
  rw [own_fbv e, e]
theorem own_gset (vs : List Value) (i : Nat) (v : Value) (j : Nat) : (vs.set i v).getD j (.int (0 : Int32)) = if i = j ∧ i < vs.length then v else vs.getD j (.int (0 : Int32)) := by
  simp only [List.getD_eq_getElem?_getD, List.getElem?_set]
  by_cases h : i = j
  · subst h
    by_cases h2 : i < vs.length
    · simp [h2]
    · simp [h2]
  · simp [h]
theorem own_aset {vs : List Value} {i : Nat} {x : Int32} (h : own_AI vs) : own_AI (vs.set i (.int x)) := fun j => by
  rw [own_gset]
  split
  · exact ⟨x, rfl⟩
  · exact h j
theorem own_zget (j : Nat) : own_zero.getD j (.int (0 : Int32)) = .int 0 := by
  have e : own_zero = List.replicate 22 (.int (0 : Int32)) := rfl
  rw [e, List.getD_eq_getElem?_getD, List.getElem?_replicate]
  split <;> rfl
theorem own_aw0 (ng : Int32) : own_AI (own_w0 ng) := by
  have z : own_AI own_zero := fun j => ⟨0, own_zget j⟩
  unfold own_w0; split
  · exact z
  · exact own_aset z
theorem own_aw1 (ng he ee : Int32) : own_AI (own_w1 ng he ee) := by
  unfold own_w1; split
  · exact own_aw0 _
  · exact own_aset (own_aw0 _)
theorem own_aputs {w : List Value} {la m : Int32} {n : Int64} (h : own_AI w) (k : Nat) : own_AI (own_puts w la m n k) := by
  induction k with
  | zero => exact h
  | succ k ih =>
    show own_AI (own_put _ _ _ _ _ _)
    unfold own_put
    split
    · exact own_aset ih
    · exact ih
theorem own_aw3 {w : List Value} {co ps cc : Int32} (h : own_AI w) : own_AI (own_w3 w co ps cc) := by
  unfold own_w3; split
  · exact h
  · exact own_aset h
theorem own_m18 {mm : Int32} (hm : 0 ≤ mm.toInt ∧ mm.toInt ≤ 19) (h : ¬ mm = 19) : mm.toInt ≤ 18 := by
  have e : (19 : Int32).toInt = 19 := by decide
  rw [← Int32.toInt_inj, e] at h
  omega
theorem own_mB {mm : Int32} (hm : 0 ≤ mm.toInt ∧ mm.toInt ≤ 19) (h : ¬ mm = 19) : ¬ mm < 0 ∧ mm < (19 : Int32) := by
  have h2 := own_m18 hm h
  have e0 : (0 : Int32).toInt = 0 := by decide
  have e : (19 : Int32).toInt = 19 := by decide
  simp only [Int32.lt_iff_toInt_lt, e0, e]
  omega
theorem own_19 {j : Nat} (h : j ≤ 18) : j = 0 ∨ j = 1 ∨ j = 2 ∨ j = 3 ∨ j = 4 ∨ j = 5 ∨ j = 6 ∨ j = 7 ∨ j = 8 ∨ j = 9 ∨ j = 10 ∨ j = 11 ∨ j = 12 ∨ j = 13 ∨ j = 14 ∨ j = 15 ∨ j = 16 ∨ j = 17 ∨ j = 18 := by omega
theorem own_getpn {j : Nat} (h : j ≤ 18) : [Value.long (1 : Int64), Value.long (10 : Int64), Value.long (100 : Int64), Value.long (1000 : Int64), Value.long (10000 : Int64), Value.long (100000 : Int64), Value.long (1000000 : Int64), Value.long (10000000 : Int64), Value.long (100000000 : Int64), Value.long (1000000000 : Int64), Value.long (10000000000 : Int64), Value.long (100000000000 : Int64), Value.long (1000000000000 : Int64), Value.long (10000000000000 : Int64), Value.long (100000000000000 : Int64), Value.long (1000000000000000 : Int64), Value.long (10000000000000000 : Int64), Value.long (100000000000000000 : Int64), Value.long (1000000000000000000 : Int64)].getD j (.long (0 : Int64)) = .long (own_p10 j) := by
  rcases own_19 h with rfl | rfl | rfl | rfl | rfl | rfl | rfl | rfl | rfl | rfl | rfl | rfl | rfl | rfl | rfl | rfl | rfl | rfl | rfl <;> rfl
theorem own_getp {mm : Int32} (hm : 0 ≤ mm.toInt ∧ mm.toInt ≤ 19) (h : ¬ mm = 19) : [Value.long (1 : Int64), Value.long (10 : Int64), Value.long (100 : Int64), Value.long (1000 : Int64), Value.long (10000 : Int64), Value.long (100000 : Int64), Value.long (1000000 : Int64), Value.long (10000000 : Int64), Value.long (100000000 : Int64), Value.long (1000000000 : Int64), Value.long (10000000000 : Int64), Value.long (100000000000 : Int64), Value.long (1000000000000 : Int64), Value.long (10000000000000 : Int64), Value.long (100000000000000 : Int64), Value.long (1000000000000000 : Int64), Value.long (10000000000000000 : Int64), Value.long (100000000000000000 : Int64), Value.long (1000000000000000000 : Int64)].getD mm.toNatClampNeg (.long (0 : Int64)) = .long (own_p10 mm.toInt.toNat) :=
  own_getpn (j := mm.toInt.toNat) (by have := own_m18 hm h; omega)
theorem own_p10v {k : Nat} (h : k ≤ 18) : (own_p10 k).toInt = ((10 ^ k : Nat) : Int) := by
  rcases own_19 h with rfl | rfl | rfl | rfl | rfl | rfl | rfl | rfl | rfl | rfl | rfl | rfl | rfl | rfl | rfl | rfl | rfl | rfl | rfl <;> decide
theorem own_p10nzn {k : Nat} (h : k ≤ 18) : own_p10 k ≠ 0 := by
  rcases own_19 h with rfl | rfl | rfl | rfl | rfl | rfl | rfl | rfl | rfl | rfl | rfl | rfl | rfl | rfl | rfl | rfl | rfl | rfl | rfl <;> decide
theorem own_p10nz {mm : Int32} (hm : 0 ≤ mm.toInt ∧ mm.toInt ≤ 19) (h : ¬ mm = 19) : own_p10 mm.toInt.toNat ≠ 0 := own_p10nzn (by have := own_m18 hm h; omega)
theorem own_p10b {k : Nat} (h : k ≤ 18) : 1 ≤ 10 ^ k ∧ 10 ^ k ≤ 1000000000000000000 := ⟨Nat.pow_pos (by decide), Nat.pow_le_pow_right (by decide) h⟩
theorem own_p10m {k : Nat} (h : k ≤ 18) : own_p10 k ≠ -1 := by
  rcases own_19 h with rfl | rfl | rfl | rfl | rfl | rfl | rfl | rfl | rfl | rfl | rfl | rfl | rfl | rfl | rfl | rfl | rfl | rfl | rfl <;> decide
/-! a digit's byte -/
theorem own_nb {x : Int64} (h0 : 48 ≤ x.toInt) (h1 : x.toInt ≤ 57) : (((x.toInt32).toInt8.toInt32).toInt8.toInt32).toInt = x.toInt := by
  have a := c_l2i x
  have b := c_i2b x.toInt32
  have c := c_i2b x.toInt32.toInt8.toInt32
  have r := rng32 x.toInt32
  omega
theorem own_digv {n : Int64} {N k : Nat} (hn : n.toInt = -(N : Int)) (hk : k ≤ 18) : (own_dig n (own_p10 k)).toInt = 48 + ((N / 10 ^ k % 10 : Nat) : Int) := by
  have hp := own_p10v hk
  have hd : (n / own_p10 k).toInt = -((N / 10 ^ k : Nat) : Int) := by
    rw [Int64.toInt_div_of_ne_right n _ (own_p10m hk), hn, hp, Int.neg_tdiv, Int.tdiv_eq_ediv_of_nonneg (Int.natCast_nonneg _), ← Int.natCast_ediv]
  have e10 : (10 : Int64).toInt = 10 := by decide
  have hm : ((n / own_p10 k) % (10 : Int64)).toInt = -((N / 10 ^ k % 10 : Nat) : Int) := by
    rw [Int64.toInt_mod, hd, e10, Int.neg_tmod, Int.tmod_eq_emod_of_nonneg (Int.natCast_nonneg _)]
    omega
  have s := c_lsub 48 ((n / own_p10 k) % (10 : Int64))
  have r := rng64 ((48 : Int64) - ((n / own_p10 k) % (10 : Int64)))
  have e48 : (48 : Int64).toInt = 48 := by decide
  rw [e48, hm] at s
  have b : N / 10 ^ k % 10 < 10 := Nat.mod_lt _ (by decide)
  have v : ((48 : Int64) - ((n / own_p10 k) % (10 : Int64))).toInt = 48 + ((N / 10 ^ k % 10 : Nat) : Int) := by omega
  unfold own_dig
  rw [own_nb (by omega) (by omega), v]
theorem own_edv {ee : Int32} (h : 0 ≤ ee.toInt ∧ ee.toInt ≤ 9) : (own_ed ee).toInt = 48 + ee.toInt := by
  have a := c_iadd 48 ee
  have r := rng32 ((48 : Int32) + ee)
  have e48 : (48 : Int32).toInt = 48 := by decide
  have b := c_i2b ((48 : Int32) + ee)
  have c := c_i2b ((48 : Int32) + ee).toInt8.toInt32
  unfold own_ed
  omega
/-! what the puts leave -/
theorem own_putsget {w : List Value} {la m : Int32} {n : Int64} {b : Nat} (hw : w.length = 22) (hb : b ≤ 2) (hm : 0 ≤ m.toInt ∧ m.toInt ≤ 19) (hla : la.toInt = b + m.toInt - 1) :
    ∀ K, K ≤ 19 → ∀ j : Nat, (own_puts w la m n K).getD j (.int (0 : Int32)) = if (b + m.toInt - K ≤ j ∧ b ≤ j ∧ j < b + m.toInt) then .int (own_dig n (own_p10 (b + m.toInt - 1 - j).toNat)) else w.getD j (.int (0 : Int32)) := by
  intro K
  induction K with
  | zero =>
    intro _ j
    rw [if_neg (by omega)]
    rfl
  | succ K ih =>
    intro hK j
    have ihj := ih (by omega) j
    show (own_put (own_puts w la m n K) (la - Int32.ofNat K) (Int32.ofNat K) m n (own_p10 K)).getD j _ = _
    have hKi : (Int32.ofNat K).toInt = K := by
      rcases (by omega : K = 0 ∨ K = 1 ∨ K = 2 ∨ K = 3 ∨ K = 4 ∨ K = 5 ∨ K = 6 ∨ K = 7 ∨ K = 8 ∨ K = 9 ∨ K = 10 ∨ K = 11 ∨ K = 12 ∨ K = 13 ∨ K = 14 ∨ K = 15 ∨ K = 16 ∨ K = 17 ∨ K = 18) with rfl | rfl | rfl | rfl | rfl | rfl | rfl | rfl | rfl | rfl | rfl | rfl | rfl | rfl | rfl | rfl | rfl | rfl | rfl <;> decide
    unfold own_put
    by_cases c : Int32.ofNat K < m
    · rw [if_pos c, own_gset]
      rw [Int32.lt_iff_toInt_lt, hKi] at c
      have s := c_isub la (Int32.ofNat K)
      have r := rng32 (la - Int32.ofNat K)
      rw [hKi] at s
      have ix : (la - Int32.ofNat K).toNatClampNeg = (b + m.toInt - 1 - K).toNat := by
        show (la - Int32.ofNat K).toInt.toNat = _
        congr 1
        omega
      rw [ix]
      by_cases q : (b + m.toInt - 1 - K).toNat = j
      · rw [if_pos ⟨q, by rw [own_len22 hw]; omega⟩, if_pos (by omega)]
        have : (b + m.toInt - 1 - j).toNat = K := by omega
        rw [this]
      · rw [if_neg (fun z => q z.1), ihj]
        by_cases p : (b + m.toInt - K ≤ j ∧ b ≤ j ∧ j < b + m.toInt)
        · rw [if_pos p, if_pos (by omega)]
        · rw [if_neg p, if_neg (by omega)]
    · rw [if_neg c, ihj]
      rw [Int32.lt_iff_toInt_lt, hKi] at c
      by_cases p : (b + m.toInt - K ≤ j ∧ b ≤ j ∧ j < b + m.toInt)
      · rw [if_pos p, if_pos (by omega)]
      · rw [if_neg p, if_neg (by omega)]
/-! the scan -/
def own_val (D : Nat → Nat) : Nat → Nat → Nat
  | _, 0 => 0
  | i, k + 1 => D i * 10 ^ k + own_val D (i + 1) k
theorem own_valS (D : Nat → Nat) (i k : Nat) : own_val D i (k + 1) = D i * 10 ^ k + own_val D (i + 1) k := rfl
theorem own_horn (S d P v : Nat) : S * (P * 10) + (d * P + v) = (10 * S + d) * P + v := by
  rw [Nat.add_mul]
  have e : S * (P * 10) = 10 * S * P := by rw [Nat.mul_comm P 10, ← Nat.mul_assoc, Nat.mul_comm S 10]
  omega
theorem own_scd (F : Nat → Int32) (D : Nat → Nat) : ∀ (k i : Nat) (s : Int64) (S : Nat), s.toInt = -(S : Int) → S ≤ 9223372036854775808 → (∀ t, t < k → (F (i + t)).toInt = 48 + (D (i + t) : Int) ∧ D (i + t) ≤ 9) →
    (S * 10 ^ k + own_val D i k ≤ 9223372036854775808 → ∃ r : Int64, own_sc F k i s = some r ∧ r.toInt = -((S * 10 ^ k + own_val D i k : Nat) : Int)) ∧ (9223372036854775808 < S * 10 ^ k + own_val D i k → own_sc F k i s = none) := by
  intro k
  induction k with
  | zero =>
    intro i s S hs hS _
    have e : S * 10 ^ 0 + own_val D i 0 = S := by show S * 1 + 0 = S; omega
    rw [e]
    exact ⟨fun _ => ⟨s, rfl, hs⟩, fun h => by omega⟩
  | succ k ih =>
    intro i s S hs hS hd
    have h0 := hd 0 (by omega)
    rw [Nat.add_zero] at h0
    have e48 : (48 : Int32).toInt = 48 := by decide
    have e0 : (0 : Int32).toInt = 0 := by decide
    have e9 : (9 : Int32).toInt = 9 := by decide
    have e10 : (10 : Int64).toInt = 10 := by decide
    have em : (-9223372036854775808 : Int64).toInt = -9223372036854775808 := by decide
    have sb := c_isub (F i) 48
    have rb := rng32 (F i - 48)
    rw [e48] at sb
    have dv : (F i - (48 : Int32)).toInt = (D i : Int) := by omega
    have h1 : ¬ (F i - (48 : Int32)) < (0 : Int32) := by rw [Int32.lt_iff_toInt_lt, dv, e0]; omega
    have h2 : ¬ (9 : Int32) < (F i - (48 : Int32)) := by rw [Int32.lt_iff_toInt_lt, dv, e9]; omega
    have dl : (F i - (48 : Int32)).toInt64.toInt = (D i : Int) := by rw [c_i2l, dv]
    have ad := c_ladd (-9223372036854775808) (F i - (48 : Int32)).toInt64
    have ar := rng64 ((-9223372036854775808 : Int64) + (F i - (48 : Int32)).toInt64)
    rw [em, dl] at ad
    have av : ((-9223372036854775808 : Int64) + (F i - (48 : Int32)).toInt64).toInt = -9223372036854775808 + (D i : Int) := by omega
    have dq := (c_ldiv ((-9223372036854775808 : Int64) + (F i - (48 : Int32)).toInt64) 10 10 (by decide) (by decide)).2 (by omega)
    rw [av] at dq
    have ev : S * 10 ^ (k + 1) + own_val D i (k + 1) = (10 * S + D i) * 10 ^ k + own_val D (i + 1) k := by
      rw [own_valS, Nat.pow_succ]; exact own_horn _ _ _ _
    rw [ev]
    by_cases c : 10 * S + D i ≤ 9223372036854775808
    · have h3 : ¬ s < (((-9223372036854775808 : Int64) + (F i - (48 : Int32)).toInt64) / (10 : Int64)) := by
        rw [Int64.lt_iff_toInt_lt, dq, hs]; omega
      rw [own_scs h1 h2 h3]
      have m1 := c_lmul s 10
      have m2 := rng64 (s * 10)
      rw [e10, hs] at m1
      have m3 := c_lsub (s * 10) (F i - (48 : Int32)).toInt64
      have m4 := rng64 ((s * 10) - (F i - (48 : Int32)).toInt64)
      rw [dl] at m3
      refine ih (i + 1) _ (10 * S + D i) (by omega) c (fun t ht => ?_)
      have := hd (t + 1) (by omega)
      rw [show i + 1 + t = i + (t + 1) by omega]
      exact this
    · have h3 : s < (((-9223372036854775808 : Int64) + (F i - (48 : Int32)).toInt64) / (10 : Int64)) := by
        rw [Int64.lt_iff_toInt_lt, dq, hs]; omega
      rw [own_sc3 h1 h2 h3]
      have : (10 * S + D i) * 1 ≤ (10 * S + D i) * 10 ^ k := Nat.mul_le_mul_left _ (Nat.pow_pos (by decide))
      exact ⟨fun h => by omega, fun _ => rfl⟩
theorem own_scn (F : Nat → Int32) : ∀ (k i t : Nat) (s : Int64), t < k → ((F (i + t) - (48 : Int32)) < (0 : Int32) ∨ (9 : Int32) < (F (i + t) - (48 : Int32))) → own_sc F k i s = none := by
  intro k
  induction k with
  | zero => intro i t s h; omega
  | succ k ih =>
    intro i t s ht hb
    by_cases h1 : (F i - (48 : Int32)) < (0 : Int32)
    · exact own_sc1 h1
    · by_cases h2 : (9 : Int32) < (F i - (48 : Int32))
      · exact own_sc2 h1 h2
      · by_cases h3 : s < (((-9223372036854775808 : Int64) + (F i - (48 : Int32)).toInt64) / (10 : Int64))
        · exact own_sc3 h1 h2 h3
        · rw [own_scs h1 h2 h3]
          cases t with
          | zero =>
            rw [Nat.add_zero] at hb
            exact absurd hb (fun z => z.elim h1 h2)
          | succ t =>
            refine ih (i + 1) t _ (by omega) ?_
            rw [show i + 1 + t = i + (t + 1) by omega]
            exact hb
theorem own_valN (N : Nat) : ∀ (m b : Nat) (D : Nat → Nat), (∀ t, t < m → D (b + t) = N / 10 ^ (m - 1 - t) % 10) → own_val D b m = N % 10 ^ m := by
  intro m
  induction m with
  | zero => intro b D _; show 0 = N % 1; omega
  | succ m ih =>
    intro b D h
    have h0 := h 0 (by omega)
    rw [Nat.add_zero, show m + 1 - 1 - 0 = m by omega] at h0
    rw [own_valS, h0, ih (b + 1) D (fun t ht => ?_), Nat.mod_pow_succ, Nat.mul_comm (10 ^ m)]
    · omega
    · have := h (t + 1) (by omega)
      rw [show b + 1 + t = b + (t + 1) by omega, this, show m + 1 - 1 - (t + 1) = m - 1 - t by omega]
theorem own_irs {ng : Int32} {mn mx lw : Int64} (hmn : mn.toInt ≤ 0) (hmx : 0 ≤ mx.toInt) (hl : lw.toInt ≤ 0) : own_fend ng mn mx (some lw) = if own_ir ng mn mx lw = (0 : Int32) then 0 else 1 := by
  show (if ng = (0 : Int32) then (if lw = (-9223372036854775808 : Int64) then 0 else if mx < (-lw) then 0 else 1) else (if lw < mn then 0 else 1)) = _
  unfold own_ir
  by_cases g : ng = (0 : Int32)
  · rw [if_pos g, if_pos g]
    by_cases a : lw = (-9223372036854775808 : Int64)
    · rw [if_pos a, if_pos a]; rfl
    · rw [if_neg a, if_neg a]
      have em : (-9223372036854775808 : Int64).toInt = -9223372036854775808 := by decide
      rw [← Int64.toInt_inj, em] at a
      have n := c_lneg lw
      have r := rng64 lw
      have r2 := rng64 (-lw)
      rw [if_neg (show ¬ (-lw) < mn by rw [Int64.lt_iff_toInt_lt]; omega)]
      by_cases b : mx < (-lw)
      · rw [if_pos b]; rfl
      · rw [if_neg b]; rfl
  · rw [if_neg g, if_neg g]
    by_cases b : lw < mn
    · rw [if_pos b, if_pos b]; rfl
    · rw [if_neg b, if_neg b, if_neg (show ¬ mx < lw by rw [Int64.lt_iff_toInt_lt]; omega)]; rfl
theorem own_w1get {ng he ee : Int32} {s : Nat} (hng : ng = 0 ∨ ng = 1) (hs : ng.toInt = s) (j : Nat) : (own_w1 ng he ee).getD j (.int (0 : Int32)) = if ¬ he = 0 ∧ s = j then .int (own_ed ee) else if ng = 1 ∧ j = 0 then .int 45 else .int 0 := by
  have z0 : (own_w0 ng).getD j (.int (0 : Int32)) = if ng = 1 ∧ j = 0 then .int 45 else .int 0 := by
    unfold own_w0
    rcases hng with rfl | rfl
    · rw [if_pos rfl, own_zget, if_neg (fun z => absurd z.1 (by decide))]
    · rw [if_neg (by decide), own_gset, own_zget]
      by_cases q : j = 0
      · subst q; rw [if_pos ⟨rfl, by decide⟩, if_pos ⟨rfl, rfl⟩]
      · rw [if_neg (fun z => q z.1.symm), if_neg (fun z => q z.2)]
  unfold own_w1
  by_cases g : he = (0 : Int32)
  · rw [if_pos g, z0, if_neg (show ¬ (¬ he = 0 ∧ s = j) from fun z => z.1 g)]
  · have hx : ng.toNatClampNeg = s := by show ng.toInt.toNat = s; omega
    have hs1 : s ≤ 1 := by have := own_01 hng; omega
    rw [if_neg g, own_gset, hx, z0, own_l0]
    by_cases q : s = j
    · rw [if_pos ⟨q, by omega⟩, if_pos (show ¬ he = 0 ∧ s = j from ⟨g, q⟩)]
    · rw [if_neg (show ¬ (s = j ∧ s < 22) from fun z => q z.1), if_neg (show ¬ (¬ he = 0 ∧ s = j) from fun z => q z.2)]
theorem own_1019 {N : Nat} (h : N ≤ 9223372036854775808) : N % 10 ^ 19 = N := Nat.mod_eq_of_lt (by omega)
/-- the remainder that the law reckons -/
theorem own_rrv {nn : Int64} {mm : Int32} {N M : Nat} (hN : nn.toInt = -(N : Int)) (hN63 : N ≤ 9223372036854775808) (hM : mm.toInt = M) (hM19 : M ≤ 19) : (own_rr nn mm).toInt = -((N % 10 ^ M : Nat) : Int) := by
  have e19 : (19 : Int32).toInt = 19 := by decide
  unfold own_rr
  by_cases q : mm = (19 : Int32)
  · rw [if_pos q, hN]
    have : M = 19 := by rw [q, e19] at hM; omega
    rw [this, own_1019 hN63]
  · rw [if_neg q]
    have h18 : M ≤ 18 := by rw [← Int32.toInt_inj, e19, hM] at q; omega
    have hm : mm.toInt.toNat = M := by omega
    rw [hm, Int64.toInt_mod, hN, own_p10v h18, Int.neg_tmod, Int.tmod_eq_emod_of_nonneg (Int.natCast_nonneg _), ← Int.natCast_emod]
theorem own_tvv {he ee mm : Int32} {M : Nat} (heB : 0 ≤ ee.toInt ∧ ee.toInt ≤ 9) (hM : mm.toInt = M) (h18 : M ≤ 18) : (own_tv he ee mm).toInt = (((if he = (0 : Int32) then 0 else ee.toInt.toNat) * 10 ^ M : Nat) : Int) := by
  have e19 : (19 : Int32).toInt = 19 := by decide
  have hm : mm.toInt.toNat = M := by omega
  have hp := own_p10v h18
  have hb := own_p10b h18
  unfold own_tv
  rw [if_neg (by rw [← Int32.toInt_inj, e19, hM]; omega), hm]
  by_cases g : he = (0 : Int32)
  · rw [if_pos g, if_pos g]
    have z : (0 : Int32).toInt64 = 0 := by decide
    rw [z, Int64.zero_mul, Nat.zero_mul]; rfl
  · rw [if_neg g, if_neg g]
    have m := c_lmul ee.toInt64 (own_p10 M)
    have r := rng64 (ee.toInt64 * own_p10 M)
    obtain ⟨E, hE⟩ : ∃ E : Nat, ee.toInt = E := ⟨ee.toInt.toNat, by omega⟩
    rw [c_i2l, hp, hE, ← Int.natCast_mul] at m
    have u : E * 10 ^ M ≤ 9 * 1000000000000000000 := Nat.mul_le_mul (by omega) hb.2
    have hE' : ee.toInt.toNat = E := by omega
    rw [hE']
    generalize E * 10 ^ M = x at *
    omega
theorem own_ngv {F : Nat → Int32} {ng ln : Int32} (hng : ng = 0 ∨ ng = 1) (h1 : ng = 1 → (0 : Int32) < ln ∧ F 0 = 45) (h0 : ng = 0 → (0 : Int32) < ln → ¬ F 0 = 45) : own_ng F ln = ng := by
  unfold own_ng
  rcases hng with rfl | rfl
  · by_cases q : (0 : Int32) < ln
    · rw [if_pos q, if_neg (h0 rfl q)]
    · rw [if_neg q]
  · rw [if_pos (h1 rfl).1, if_pos (h1 rfl).2]
theorem own_stav {ng : Int32} (hng : ng = 0 ∨ ng = 1) : own_sta ng = ng := by rcases hng with rfl | rfl <;> decide
theorem own_dgf {cc : Int32} (h : own_dg cc = 0) (hr : -128 ≤ cc.toInt ∧ cc.toInt ≤ 127) : (cc - (48 : Int32)) < (0 : Int32) ∨ (9 : Int32) < (cc - (48 : Int32)) := by
  have e48 : (48 : Int32).toInt = 48 := by decide
  have e57 : (57 : Int32).toInt = 57 := by decide
  have e0 : (0 : Int32).toInt = 0 := by decide
  have e9 : (9 : Int32).toInt = 9 := by decide
  have s := c_isub cc 48
  have r := rng32 (cc - 48)
  rw [e48] at s
  simp only [Int32.lt_iff_toInt_lt, e0, e9]
  unfold own_dg at h
  by_cases a : cc < (48 : Int32)
  · rw [Int32.lt_iff_toInt_lt, e48] at a; omega
  · rw [if_neg a] at h
    by_cases b : (57 : Int32) < cc
    · rw [Int32.lt_iff_toInt_lt, e57] at b; omega
    · rw [if_neg b] at h; exact absurd h (by decide)
theorem own_law {ng he ee mm cr cc ps ln bs la so dg co fi ir p4 : Int32} {nn mn mx rr tv lw : Int64} (hng : ng = 0 ∨ ng = 1) (hhe : he = 0 ∨ he = 1) (heB : 0 ≤ ee.toInt ∧ ee.toInt ≤ 9) (hmB : 0 ≤ mm.toInt ∧ mm.toInt ≤ 19) (hmn : mn.toInt ≤ 0) (hmx : 0 ≤ mx.toInt) (hnn : nn.toInt ≤ 0)
    (hbv : bs.toInt = ng.toInt + he.toInt) (hlv : ln.toInt = bs.toInt + mm.toInt) (hla : la.toInt = bs.toInt + mm.toInt - 1) (hcc : p4.toInt8.toInt32 = cc) (hso : so = own_so ng ln) (hps : ¬ so = (0 : Int32) → ng.toInt ≤ ps.toInt ∧ ps.toInt < ln.toInt) (hdg : dg = own_dg cc) (hco : co = own_co cr so dg ps cc)
    (hrr : rr = own_rr nn mm) (htv : tv = own_tv he ee mm) (hfi : fi = own_fi he ee mm rr tv) (hlw : rr - tv = lw) (hir : ir = own_ir ng mn mx lw) :
    own_ii (own_fb (own_w3 (own_puts (own_w1 ng he ee) la mm nn 19) co ps cc)) ln mn mx = own_ex so co fi ir := by
  have g01 := own_01 hng
  have h01 := own_01 hhe
  obtain ⟨s, hs⟩ : ∃ s : Nat, ng.toInt = s := ⟨ng.toInt.toNat, by omega⟩
  obtain ⟨b, hb⟩ : ∃ b : Nat, bs.toInt = b := ⟨bs.toInt.toNat, by omega⟩
  obtain ⟨M, hM⟩ : ∃ M : Nat, mm.toInt = M := ⟨mm.toInt.toNat, by omega⟩
  obtain ⟨N, hN⟩ : ∃ N : Nat, nn.toInt = -(N : Int) := ⟨(-nn.toInt).toNat, by omega⟩
  have hN63 : N ≤ 9223372036854775808 := by have := rng64 nn; omega
  have e45 : (45 : Int32).toInt = 45 := by decide
  have e0 : (0 : Int32).toInt = 0 := by decide
  have hhi : (he = 0 → b = s) ∧ (¬ he = 0 → b = s + 1) := by
    refine ⟨fun q => ?_, fun q => ?_⟩
    · rw [q, e0] at hbv; omega
    · have q' := hhe.resolve_left q
      rw [q', show (1 : Int32).toInt = 1 by decide] at hbv; omega
  have hPg := fun j => own_putsget (w := own_w1 ng he ee) (la := la) (m := mm) (n := nn) (b := b) (own_l1 ng he ee) (by omega) hmB (by omega) 19 (by decide) j
  have hWg := own_w1get (he := he) (ee := ee) hng hs
  generalize hP : own_puts (own_w1 ng he ee) la mm nn 19 = P at *
  -- the bytes of P
  have fin : ∀ j : Nat, b ≤ j → j < b + M → own_fb P j = own_dig nn (own_p10 (b + M - 1 - j)) := fun j h1 h2 => by
    have := hPg j
    rw [if_pos (by omega), show ((b : Int) + mm.toInt - 1 - j).toNat = b + M - 1 - j by omega] at this
    exact own_fbv this
  have fout : ∀ j : Nat, j < b → own_fb P j = if ¬ he = 0 ∧ s = j then own_ed ee else if ng = 1 ∧ j = 0 then 45 else 0 := fun j h1 => by
    have q := hPg j
    rw [if_neg (by omega), hWg j] at q
    refine own_fbv (q.trans ?_)
    split
    · rfl
    · split <;> rfl
  have hdigit : ∀ j : Nat, s ≤ j → j < b + M → (own_fb P j).toInt = 48 + (((if b ≤ j then N / 10 ^ (b + M - 1 - j) % 10 else ee.toInt.toNat) : Nat) : Int) ∧ (if b ≤ j then N / 10 ^ (b + M - 1 - j) % 10 else ee.toInt.toNat) ≤ 9 := fun j h1 h2 => by
    by_cases q : b ≤ j
    · rw [if_pos q, fin j q h2]
      have : N / 10 ^ (b + M - 1 - j) % 10 < 10 := Nat.mod_lt _ (by decide)
      exact ⟨own_digv hN (by omega), by omega⟩
    · rw [if_neg q, fout j (by omega)]
      have g : ¬ he = 0 := fun z => by have := hhi.1 z; omega
      have := hhi.2 g
      rw [if_pos ⟨g, by omega⟩, own_edv heB]
      omega
  have hccr : -128 ≤ cc.toInt ∧ cc.toInt ≤ 127 := by
    have := c_i2b p4
    rw [hcc] at this
    omega
  have hcc8 : cc.toInt8.toInt32 = cc := by rw [← hcc]; simp
  have hG : own_AI P := by rw [← hP]; exact own_aputs (own_aw1 ng he ee) 19
  have hPl : P.length = 22 := by rw [← hP]; exact own_len22 (own_l1 ng he ee) 19
  have h3 : ∀ j : Nat, own_fb (own_w3 P co ps cc) j = if ¬ co = 0 ∧ ps.toInt.toNat = j ∧ ps.toInt.toNat < 22 then cc else own_fb P j := fun j => by
    obtain ⟨x, ex⟩ := hG j
    unfold own_w3
    by_cases q : co = (0 : Int32)
    · rw [if_pos q, if_neg (fun z => z.1 q)]
    · rw [if_neg q]
      have e := own_gset P ps.toNatClampNeg (.int cc.toInt8.toInt32) j
      rw [hPl, hcc8] at e
      have pe : ps.toNatClampNeg = ps.toInt.toNat := rfl
      rw [pe] at e ⊢
      rw [hcc8]
      by_cases c : ps.toInt.toNat = j ∧ ps.toInt.toNat < 22
      · rw [if_pos c] at e
        rw [if_pos ⟨q, c⟩]
        exact own_fbv e
      · rw [if_neg c, ex] at e
        rw [if_neg (fun z => c z.2), own_fbv ex]
        exact own_fbv e
  have hcof : ¬ co = 0 → ¬ so = 0 ∧ dg = 0 ∧ ¬ (ps = 0 ∧ cc = 45) := fun q => own_cof (by rw [← hco]; exact q)
  generalize hF : own_fb (own_w3 P co ps cc) = F at *
  have hng' : own_ng F ln = ng := by
    refine own_ngv hng (fun q => ?_) (fun q q2 => ?_)
    · have sv : s = 1 := by rw [q, show (1 : Int32).toInt = 1 by decide] at hs; omega
      refine ⟨by rw [Int32.lt_iff_toInt_lt, e0]; omega, ?_⟩
      rw [h3 0, if_neg (fun z => by have := hps (hcof z.1).1; omega), fout 0 (by omega), if_neg (fun z => by omega), if_pos ⟨q, rfl⟩]
    · have sv : s = 0 := by rw [q, e0] at hs; omega
      rw [Int32.lt_iff_toInt_lt, e0] at q2
      rw [h3 0]
      by_cases c : ¬ co = 0 ∧ ps.toInt.toNat = 0 ∧ ps.toInt.toNat < 22
      · rw [if_pos c]
        intro z
        have hc := hcof c.1
        have := hps hc.1
        exact hc.2.2 ⟨Int32.toInt_inj.mp (by rw [e0]; omega), z⟩
      · rw [if_neg c]
        intro z
        have := hdigit 0 (by omega) (by omega)
        rw [z, e45] at this
        omega
  have hst : own_sta ng = ng := own_stav hng
  unfold own_ii
  rw [hng', hst]
  by_cases hlt : ng < ln
  · have hso1 : ¬ so = 0 := by rw [hso]; unfold own_so; rw [if_pos hlt]; decide
    rw [Int32.lt_iff_toInt_lt] at hlt
    rw [if_neg (fun z => by rw [z] at hlt; omega)]
    have hk : (ln.toInt - ng.toInt).toNat = b + M - s := by omega
    have hi : ng.toInt.toNat = s := by omega
    rw [hk, hi]
    unfold own_ex
    rw [if_neg hso1]
    by_cases hc : co = 0
    · rw [if_pos hc]
      have hFd : ∀ t, t < b + M - s → (F (s + t)).toInt = 48 + (((fun j => if b ≤ j then N / 10 ^ (b + M - 1 - j) % 10 else ee.toInt.toNat) (s + t) : Nat) : Int) ∧ (fun j => if b ≤ j then N / 10 ^ (b + M - 1 - j) % 10 else ee.toInt.toNat) (s + t) ≤ 9 := fun t ht => by
        rw [h3 (s + t), if_neg (fun z => z.1 hc)]
        exact hdigit (s + t) (by omega) (by omega)
      have hvb : own_val (fun j => if b ≤ j then N / 10 ^ (b + M - 1 - j) % 10 else ee.toInt.toNat) b M = N % 10 ^ M := by
        refine own_valN N M b _ (fun t ht => ?_)
        show (if b ≤ b + t then _ else _) = _
        rw [if_pos (by omega), show b + M - 1 - (b + t) = M - 1 - t by omega]
      have hval : own_val (fun j => if b ≤ j then N / 10 ^ (b + M - 1 - j) % 10 else ee.toInt.toNat) s (b + M - s) = (if he = (0 : Int32) then 0 else ee.toInt.toNat) * 10 ^ M + N % 10 ^ M := by
        by_cases g : he = 0
        · have := hhi.1 g
          rw [if_pos g, show b + M - s = M by omega, ← this, hvb, Nat.zero_mul, Nat.zero_add]
        · have := hhi.2 g
          rw [if_neg g, show b + M - s = M + 1 by omega, own_valS, ← this, hvb]
          show (if b ≤ s then _ else _) * _ + _ = _
          rw [if_neg (by omega)]
      have hrv := own_rrv hN hN63 hM (by omega)
      rw [← hrr] at hrv
      have hmod : N % 10 ^ M ≤ 9223372036854775808 := Nat.le_trans (Nat.mod_le _ _) hN63
      have e19 : (19 : Int32).toInt = 19 := by decide
      have em : (-9223372036854775808 : Int64).toInt = -9223372036854775808 := by decide
      -- does it fit
      have hfit : (fi = 0 ↔ 9223372036854775808 < (if he = (0 : Int32) then 0 else ee.toInt.toNat) * 10 ^ M + N % 10 ^ M) ∧ (¬ fi = 0 → lw.toInt = -(((if he = (0 : Int32) then 0 else ee.toInt.toNat) * 10 ^ M + N % 10 ^ M : Nat) : Int)) := by
        have hsub := c_lsub rr tv
        have hr1 := rng64 (rr - tv)
        rw [hlw] at hsub hr1
        by_cases q : mm = (19 : Int32)
        · have hM' : M = 19 := by rw [q, e19] at hM; omega
          have htv0 : tv = 0 := by rw [htv]; unfold own_tv; rw [if_pos q]
          have htz : tv.toInt = 0 := by rw [htv0]; decide
          have hfv : fi = if he = (0 : Int32) then 1 else if ee = (0 : Int32) then 1 else 0 := by rw [hfi]; unfold own_fi; rw [if_pos q]
          rw [hM'] at hmod hrv ⊢
          by_cases g : he = (0 : Int32)
          · rw [if_pos g] at hfv ⊢
            rw [hfv, Nat.zero_mul, Nat.zero_add]
            exact ⟨⟨fun z => absurd z (by decide), fun z => by omega⟩, fun _ => by omega⟩
          · rw [if_neg g] at hfv ⊢
            by_cases z : ee = (0 : Int32)
            · have : ee.toInt.toNat = 0 := by rw [z]; decide
              rw [if_pos z] at hfv
              rw [hfv, this, Nat.zero_mul, Nat.zero_add]
              exact ⟨⟨fun z => absurd z (by decide), fun z => by omega⟩, fun _ => by omega⟩
            · rw [if_neg z] at hfv
              have : 1 ≤ ee.toInt.toNat := by rw [← Int32.toInt_inj, e0] at z; omega
              have u : 1 * 10 ^ 19 ≤ ee.toInt.toNat * 10 ^ 19 := Nat.mul_le_mul_right _ this
              rw [hfv]
              exact ⟨⟨fun _ => by omega, fun _ => rfl⟩, fun z => absurd rfl z⟩
        · have h18 : M ≤ 18 := by rw [← Int32.toInt_inj, e19, hM] at q; omega
          have htv' := own_tvv (he := he) heB hM h18
          rw [← htv] at htv'
          have hpb := own_p10b h18
          have hfv : fi = if rr < ((-9223372036854775808 : Int64) + tv) then 0 else 1 := by rw [hfi]; unfold own_fi; rw [if_neg q]
          have u : (if he = (0 : Int32) then 0 else ee.toInt.toNat) * 10 ^ M ≤ 9 * 1000000000000000000 := Nat.mul_le_mul (by split <;> omega) hpb.2
          have ad := c_ladd (-9223372036854775808) tv
          have ar := rng64 ((-9223372036854775808 : Int64) + tv)
          rw [em, htv'] at ad
          rw [htv'] at hsub
          rw [hrv] at hsub
          generalize (if he = (0 : Int32) then 0 else ee.toInt.toNat) * 10 ^ M = tp at *
          generalize N % 10 ^ M = rm at *
          by_cases c : rr < ((-9223372036854775808 : Int64) + tv)
          · rw [if_pos c] at hfv
            rw [Int64.lt_iff_toInt_lt, hrv] at c
            rw [hfv]
            exact ⟨⟨fun _ => by omega, fun _ => rfl⟩, fun z => absurd rfl z⟩
          · rw [if_neg c] at hfv
            rw [Int64.lt_iff_toInt_lt, hrv] at c
            rw [hfv]
            exact ⟨⟨fun z => absurd z (by decide), fun z => by omega⟩, fun _ => by omega⟩
      have hsc := own_scd F (fun j => if b ≤ j then N / 10 ^ (b + M - 1 - j) % 10 else ee.toInt.toNat) (b + M - s) s (0 : Int64) 0 (by decide) (by decide) hFd
      rw [Nat.zero_mul, Nat.zero_add] at hsc
      rw [hval] at hsc
      by_cases hf : fi = 0
      · rw [if_pos hf, hsc.2 (hfit.1.mp hf)]; rfl
      · rw [if_neg hf]
        obtain ⟨r, hr1, hr2⟩ := hsc.1 (Nat.le_of_not_lt (fun z => hf (hfit.1.mpr z)))
        have hrl : r = lw := Int64.toInt_inj.mp (by rw [hr2, hfit.2 hf])
        rw [hr1, hrl, own_irs hmn hmx (by have := hfit.2 hf; omega), hir]
    · rw [if_neg hc]
      have hc' := hcof hc
      have hp := hps hc'.1
      have : own_sc F (b + M - s) s (0 : Int64) = none := by
        refine own_scn F (b + M - s) s (ps.toInt.toNat - s) 0 (by omega) ?_
        rw [show s + (ps.toInt.toNat - s) = ps.toInt.toNat by omega, h3, if_pos ⟨hc, rfl, by omega⟩]
        exact own_dgf (by rw [← hdg]; exact hc'.2.1) hccr
      rw [this]; rfl
  · have hso0 : so = 0 := by rw [hso]; unfold own_so; rw [if_neg hlt]
    rw [Int32.lt_iff_toInt_lt] at hlt
    rw [if_pos (Int32.toInt_inj.mp (by omega))]
    unfold own_ex
    rw [if_pos hso0]
theorem d1_0 : decode method_3_code 0 = .ok (.iload_n 2, 1) := by decide +kernel
theorem d1_1 : decode method_3_code 1 = .ok (.iload_n 3, 1) := by decide +kernel
theorem d1_2 : decode method_3_code 2 = .ok (.if_icmp .ge 23, 3) := by decide +kernel
theorem d1_5 : decode method_3_code 5 = .ok (.aload_n 0, 1) := by decide +kernel
theorem d1_6 : decode method_3_code 6 = .ok (.iload_n 1, 1) := by decide +kernel
theorem d1_7 : decode method_3_code 7 = .ok (.ldc2_w 62, 3) := by decide +kernel
theorem d1_10 : decode method_3_code 10 = .ok (.lload 4, 2) := by decide +kernel
theorem d1_12 : decode method_3_code 12 = .ok (.aload 6, 2) := by decide +kernel
theorem d1_14 : decode method_3_code 14 = .ok (.iload_n 2, 1) := by decide +kernel
theorem d1_15 : decode method_3_code 15 = .ok (.laload, 1) := by decide +kernel
theorem d1_16 : decode method_3_code 16 = .ok (.ldiv, 1) := by decide +kernel
theorem d1_17 : decode method_3_code 17 = .ok (.ldc2_w 9, 3) := by decide +kernel
theorem d1_20 : decode method_3_code 20 = .ok (.lrem, 1) := by decide +kernel
theorem d1_21 : decode method_3_code 21 = .ok (.lsub, 1) := by decide +kernel
theorem d1_22 : decode method_3_code 22 = .ok (.l2i, 1) := by decide +kernel
theorem d1_23 : decode method_3_code 23 = .ok (.i2b, 1) := by decide +kernel
theorem d1_24 : decode method_3_code 24 = .ok (.bastore, 1) := by decide +kernel
theorem d1_25 : decode method_3_code 25 = .ok (.return_, 1) := by decide +kernel
theorem pn_1 : plainName "com/example/wide_berth/wideberth/postgres/LiteralsIsIntegerPinLaw" = true := by first | (simp [plainName, overriddenIn]; done) | decide +kernel
theorem ef_1 (m : MethodId) (r0 : Addr) (p1 : Int32) (p2 : Int32) (p3 : Int32) (q4 : Int64) (r5 : Addr) : entryFrame m #[(.ref r0), (.int p1), (.int p2), (.int p3), (.long q4), (.ref r5)] 7 = mkF m 0 #[oR r0, oI p1, oI p2, oI p3, oJ q4, oS, oR r5] [] := by first | (simp [entryFrame, mkF, argsToLocals, Value.category]; done) | rfl
def Q1 (Z : State) (r0 : Addr) (p1 : Int32) (p2 : Int32) (p3 : Int32) (q4 : Int64) (r5 : Addr) (kA kB : ClassId) (vs us : List Value) (pk : Int64) (h0 : Heap) (n0 : Nat) (v : Option Value) (h : Heap) (L : List Loc) : Prop := v = none ∧ Fr n0 L ∧ Keep h0 h [r0] ∧ Arv Z h r0 kA .byte (22 : Int32) (own_put vs p1 p2 p3 q4 pk) (.int (0 : Int32))
set_option maxRecDepth 65536 in
set_option maxHeartbeats 40000000 in
theorem rm1 (l : Launch) (Z : State) (a0 : Array Value) (hw : ∀ d ∈ tables_1, d.before a0 Z = true) (ws : List Jvm.Cond) (r0 : Addr) (p1 : Int32) (p2 : Int32) (p3 : Int32) (q4 : Int64) (r5 : Addr) (kA kB : ClassId) (vs us : List Value) (pk : Int64) (h0 : Heap) (n0 : Nat) (Z0 : n0 ≤ h0.size) (PV : Arv Z h0 r0 kA .byte (22 : Int32) vs (.int (0 : Int32))) (HL : vs.length = 22) (PG : n0 ≤ r0) (PP : Arv Z h0 r5 kB .long (19 : Int32) us (.long (0 : Int64))) (PN : r5 ≠ r0) (Hk : ¬ p2 < 0 ∧ p2 < (19 : Int32)) (hpk : us.getD p2.toNatClampNeg (.long (0 : Int64)) = .long pk) (hnz : pk ≠ 0) (HA : p2 < p3 → (¬ p1 < 0 ∧ p1 < (22 : Int32)) ∧ p1.toNatClampNeg < vs.length) :
    MetFree l (⟨"com/example/wide_berth/wideberth/postgres/LiteralsIsIntegerPinLaw", "put", "([BIIIJ[J)V"⟩ : MethodName) (head1 (Jvm.Cond.code (⟨"com/example/wide_berth/wideberth/postgres/LiteralsIsIntegerPinLaw", "put", "([BIIIJ[J)V"⟩ : MethodName) method_3_code 7 none :: ws) ({ frames := 0, cells := 0, slots := 0, locals := 0 } : Room)) (fun a U => a = #[(.ref r0), (.int p1), (.int p2), (.int p3), (.long q4), (.ref r5)] ∧ Z.Warmed39 U.vm ∧ U.heap = h0) (fun _ _ _ _ _ => True) (fun _ U o U' => ∃ v L, o = .returned v ∧ Q1 Z r0 p1 p2 p3 q4 r5 kA kB vs us pk h0 n0 v U'.heap L ∧ FrameEnd U o U' L ({ frames := 0, cells := 0, slots := 0, locals := 0 } : Room).cells ({ frames := 0, cells := 0, slots := 0, locals := 0 } : Room).slots) := by
  refine MetFree.of_bodySF (plainFor_of_name pn_1) hisR ?_
  intro p e s m args below meth c s₁ Bd hml0 hP hK
  obtain ⟨rfl, hZ, hh⟩ := hP
  have hx := Bd.exec
  have hby := Bd.bytes
  have hml : c.maxLocals = 7 := hml0
  have hown : s.vm.findClass "com/example/wide_berth/wideberth/postgres/LiteralsIsIntegerPinLaw" = some m.cls := findClass_of_methodNamed Bd.named
  have hnm := (name_of_methodNamed Bd.named Bd.method).1
  have hlk : meth.locks = false := Bd.notSynchronized
  have X0 : Stand p l e ({ frames := 0, cells := 0, slots := 0, locals := 0 } : Room) s m #[(.ref r0), (.int p1), (.int p2), (.int p3), (.long q4), (.ref r5)] below meth c s₁ [] 0 0 := Stand.of_body Bd
  have e0 : s₁.heap = h0 := by rw [← hh, Bd.state]; rfl
  have N0 := Fr.nil n0
  refine own_cast (Q := Q1 Z r0 p1 p2 p3 q4 r5 kA kB vs us pk h0 n0) (kc := 0) (ks := 0) (ef_1 m r0 p1 p2 p3 q4 r5) ?_
  have K_1 := Keep.refl h0 [r0]
  refine own_st (fun _ k => XS.iloadN X0.here hx rfl (hb hby d1_0) rfl k) ?_
  show own_Go X0 (Q1 Z r0 p1 p2 p3 q4 r5 kA kB vs us pk h0 n0) 0 0 1 #[oR r0, oI p1, oI p2, oI p3, oJ q4, oS, oR r5] [(.int p2)]
  refine own_st (fun _ k => XS.iloadN X0.here hx rfl (hb hby d1_1) rfl k) ?_
  show own_Go X0 (Q1 Z r0 p1 p2 p3 q4 r5 kA kB vs us pk h0 n0) 0 0 2 #[oR r0, oI p1, oI p2, oI p3, oJ q4, oS, oR r5] [(.int p3), (.int p2)]
  by_cases c2_2 : p2 < p3
  · skip
    refine own_st (fun _ k => XS.icmpNo X0.here hx rfl (hb hby d1_2) rfl (tlt c2_2).2.1 k) ?_
    show own_Go X0 (Q1 Z r0 p1 p2 p3 q4 r5 kA kB vs us pk h0 n0) 0 0 5 #[oR r0, oI p1, oI p2, oI p3, oJ q4, oS, oR r5] []
    refine own_st (fun _ k => XS.aloadN X0.here hx rfl (hb hby d1_5) rfl rfl k) ?_
    show own_Go X0 (Q1 Z r0 p1 p2 p3 q4 r5 kA kB vs us pk h0 n0) 0 0 6 #[oR r0, oI p1, oI p2, oI p3, oJ q4, oS, oR r5] [(.ref r0)]
    refine own_st (fun _ k => XS.iloadN X0.here hx rfl (hb hby d1_6) rfl k) ?_
    show own_Go X0 (Q1 Z r0 p1 p2 p3 q4 r5 kA kB vs us pk h0 n0) 0 0 7 #[oR r0, oI p1, oI p2, oI p3, oJ q4, oS, oR r5] [(.int p1), (.ref r0)]
    refine own_st (fun t k => X0.ldc2Long hx hown (mvT hZ (hw _ (List.mem_of_getElem? (i := 33) rfl))) (g := (mkF m 7 #[oR r0, oI p1, oI p2, oI p3, oJ q4, oS, oR r5] [(.int p1), (.ref r0)])) rfl (hb hby d1_7) t k) ?_
    show own_Go X0 (Q1 Z r0 p1 p2 p3 q4 r5 kA kB vs us pk h0 n0) 0 0 10 #[oR r0, oI p1, oI p2, oI p3, oJ q4, oS, oR r5] [(.long (48 : Int64)), (.int p1), (.ref r0)]
    refine own_st (fun _ k => XS.lload X0.here hx rfl (hb hby d1_10) rfl k) ?_
    show own_Go X0 (Q1 Z r0 p1 p2 p3 q4 r5 kA kB vs us pk h0 n0) 0 0 12 #[oR r0, oI p1, oI p2, oI p3, oJ q4, oS, oR r5] [(.long q4), (.long (48 : Int64)), (.int p1), (.ref r0)]
    refine own_st (fun _ k => XS.aload X0.here hx rfl (hb hby d1_12) rfl rfl k) ?_
    show own_Go X0 (Q1 Z r0 p1 p2 p3 q4 r5 kA kB vs us pk h0 n0) 0 0 14 #[oR r0, oI p1, oI p2, oI p3, oJ q4, oS, oR r5] [(.ref r5), (.long q4), (.long (48 : Int64)), (.int p1), (.ref r0)]
    refine own_st (fun _ k => XS.iloadN X0.here hx rfl (hb hby d1_14) rfl k) ?_
    show own_Go X0 (Q1 Z r0 p1 p2 p3 q4 r5 kA kB vs us pk h0 n0) 0 0 15 #[oR r0, oI p1, oI p2, oI p3, oJ q4, oS, oR r5] [(.int p2), (.ref r5), (.long q4), (.long (48 : Int64)), (.int p1), (.ref r0)]
    refine own_st (fun _ k => own_ldJ X0 hx hZ e0 PP (j := p2) Hk (v := (.long pk)) hpk (g := (mkF m 15 #[oR r0, oI p1, oI p2, oI p3, oJ q4, oS, oR r5] [(.int p2), (.ref r5), (.long q4), (.long (48 : Int64)), (.int p1), (.ref r0)])) rfl rfl (hb hby d1_15) _ k) ?_
    show own_Go X0 (Q1 Z r0 p1 p2 p3 q4 r5 kA kB vs us pk h0 n0) 0 0 16 #[oR r0, oI p1, oI p2, oI p3, oJ q4, oS, oR r5] [(.long pk), (.long q4), (.long (48 : Int64)), (.int p1), (.ref r0)]
    refine own_st (fun _ k => XS.ldiv X0.here hx rfl (hb hby d1_16) rfl hnz k) ?_
    show own_Go X0 (Q1 Z r0 p1 p2 p3 q4 r5 kA kB vs us pk h0 n0) 0 0 17 #[oR r0, oI p1, oI p2, oI p3, oJ q4, oS, oR r5] [(.long (q4 / pk)), (.long (48 : Int64)), (.int p1), (.ref r0)]
    refine own_st (fun t k => X0.ldc2Long hx hown (mvT hZ (hw _ (List.mem_of_getElem? (i := 2) rfl))) (g := (mkF m 17 #[oR r0, oI p1, oI p2, oI p3, oJ q4, oS, oR r5] [(.long (q4 / pk)), (.long (48 : Int64)), (.int p1), (.ref r0)])) rfl (hb hby d1_17) t k) ?_
    show own_Go X0 (Q1 Z r0 p1 p2 p3 q4 r5 kA kB vs us pk h0 n0) 0 0 20 #[oR r0, oI p1, oI p2, oI p3, oJ q4, oS, oR r5] [(.long (10 : Int64)), (.long (q4 / pk)), (.long (48 : Int64)), (.int p1), (.ref r0)]
    refine own_st (fun _ k => own_lrem X0 hx rfl (hb hby d1_20) rfl (by decide) k) ?_
    show own_Go X0 (Q1 Z r0 p1 p2 p3 q4 r5 kA kB vs us pk h0 n0) 0 0 21 #[oR r0, oI p1, oI p2, oI p3, oJ q4, oS, oR r5] [(.long ((q4 / pk) % (10 : Int64))), (.long (48 : Int64)), (.int p1), (.ref r0)]
    refine own_st (fun _ k => XS.lsub X0.here hx rfl (hb hby d1_21) rfl k) ?_
    show own_Go X0 (Q1 Z r0 p1 p2 p3 q4 r5 kA kB vs us pk h0 n0) 0 0 22 #[oR r0, oI p1, oI p2, oI p3, oJ q4, oS, oR r5] [(.long ((48 : Int64) - ((q4 / pk) % (10 : Int64)))), (.int p1), (.ref r0)]
    refine own_st (fun _ k => XS.l2i X0.here hx rfl (hb hby d1_22) rfl k) ?_
    show own_Go X0 (Q1 Z r0 p1 p2 p3 q4 r5 kA kB vs us pk h0 n0) 0 0 23 #[oR r0, oI p1, oI p2, oI p3, oJ q4, oS, oR r5] [(.int (((48 : Int64) - ((q4 / pk) % (10 : Int64))).toInt32)), (.int p1), (.ref r0)]
    refine own_st (fun _ k => XS.i2b X0.here hx rfl (hb hby d1_23) rfl k) ?_
    show own_Go X0 (Q1 Z r0 p1 p2 p3 q4 r5 kA kB vs us pk h0 n0) 0 0 24 #[oR r0, oI p1, oI p2, oI p3, oJ q4, oS, oR r5] [(.int ((((48 : Int64) - ((q4 / pk) % (10 : Int64))).toInt32).toInt8.toInt32)), (.int p1), (.ref r0)]
    obtain ⟨T3, h3, X3, e3, W3, V3, st3⟩ := own_stB X0 hx hZ e0 PV (j := p1) (HA c2_2).1 (HA c2_2).2 (g := (mkF m 24 #[oR r0, oI p1, oI p2, oI p3, oJ q4, oS, oR r5] [(.int ((((48 : Int64) - ((q4 / pk) % (10 : Int64))).toInt32).toInt8.toInt32)), (.int p1), (.ref r0)])) rfl rfl (hb hby d1_24)
    refine own_st st3 ?_
    have f_4 := PP.other W3 PN
    have Z_5 := Nat.le_trans Z0 (Nat.le_of_eq W3.size.symm)
    have K_6 := K_1.wr W3 (Or.inl (List.mem_of_getElem? (i := 0) rfl))
    have N_7 := Fr.snoc X3 N0 PG
    show own_Go X3 (Q1 Z r0 p1 p2 p3 q4 r5 kA kB vs us pk h0 n0) 0 0 25 #[oR r0, oI p1, oI p2, oI p3, oJ q4, oS, oR r5] []
    refine own_retV X3 hx Bd.returns hlk e3 (hb hby d1_25) (by decide) (by decide) ?_
    exact ⟨rfl, N_7, K_6, by show Arv Z _ _ _ _ _ (if _ then _ else _) _; rw [if_pos c2_2]; exact V3⟩
  · skip
    refine own_st (fun _ k => XS.icmpYes X0.here hx rfl (pc0 := 2) (pc' := 25) rfl (hb hby d1_2) rfl (flt c2_2).2.1 (by decide) (by decide) k) ?_
    show own_Go X0 (Q1 Z r0 p1 p2 p3 q4 r5 kA kB vs us pk h0 n0) 0 0 25 #[oR r0, oI p1, oI p2, oI p3, oJ q4, oS, oR r5] []
    refine own_retV X0 hx Bd.returns hlk e0 (hb hby d1_25) (by decide) (by decide) ?_
    exact ⟨rfl, N0, K_1, by show Arv Z _ _ _ _ _ (if _ then _ else _) _; rw [if_neg c2_2]; exact PV⟩
theorem d2_0 : decode prog_64_method_3_code 0 = .ok (.iload_n 1, 1) := by decide +kernel
theorem d2_1 : decode prog_64_method_3_code 1 = .ok (.ifCond .le 15, 3) := by decide +kernel
theorem d2_4 : decode prog_64_method_3_code 4 = .ok (.aload_n 0, 1) := by decide +kernel
theorem d2_5 : decode prog_64_method_3_code 5 = .ok (.iconst 0, 1) := by decide +kernel
theorem d2_6 : decode prog_64_method_3_code 6 = .ok (.baload, 1) := by decide +kernel
theorem d2_7 : decode prog_64_method_3_code 7 = .ok (.bipush 45, 2) := by decide +kernel
theorem d2_9 : decode prog_64_method_3_code 9 = .ok (.if_icmp .ne 7, 3) := by decide +kernel
theorem d2_12 : decode prog_64_method_3_code 12 = .ok (.iconst 1, 1) := by decide +kernel
theorem d2_13 : decode prog_64_method_3_code 13 = .ok (.goto 4, 3) := by decide +kernel
theorem d2_16 : decode prog_64_method_3_code 16 = .ok (.iconst 0, 1) := by decide +kernel
theorem d2_17 : decode prog_64_method_3_code 17 = .ok (.istore 6, 2) := by decide +kernel
theorem d2_19 : decode prog_64_method_3_code 19 = .ok (.iload 6, 2) := by decide +kernel
theorem d2_21 : decode prog_64_method_3_code 21 = .ok (.ifCond .eq 7, 3) := by decide +kernel
theorem d2_24 : decode prog_64_method_3_code 24 = .ok (.iconst 1, 1) := by decide +kernel
theorem d2_25 : decode prog_64_method_3_code 25 = .ok (.goto 4, 3) := by decide +kernel
theorem d2_28 : decode prog_64_method_3_code 28 = .ok (.iconst 0, 1) := by decide +kernel
theorem d2_29 : decode prog_64_method_3_code 29 = .ok (.istore 7, 2) := by decide +kernel
theorem d2_31 : decode prog_64_method_3_code 31 = .ok (.iload 7, 2) := by decide +kernel
theorem d2_33 : decode prog_64_method_3_code 33 = .ok (.iload_n 1, 1) := by decide +kernel
theorem d2_34 : decode prog_64_method_3_code 34 = .ok (.if_icmp .ne 5, 3) := by decide +kernel
theorem d2_37 : decode prog_64_method_3_code 37 = .ok (.iconst 0, 1) := by decide +kernel
theorem d2_38 : decode prog_64_method_3_code 38 = .ok (.ireturn, 1) := by decide +kernel
theorem d2_39 : decode prog_64_method_3_code 39 = .ok (.lconst 0, 1) := by decide +kernel
theorem d2_40 : decode prog_64_method_3_code 40 = .ok (.lstore 8, 2) := by decide +kernel
theorem d2_42 : decode prog_64_method_3_code 42 = .ok (.iload 7, 2) := by decide +kernel
theorem d2_44 : decode prog_64_method_3_code 44 = .ok (.istore 10, 2) := by decide +kernel
theorem d2_46 : decode prog_64_method_3_code 46 = .ok (.iload 10, 2) := by decide +kernel
theorem d2_48 : decode prog_64_method_3_code 48 = .ok (.iload_n 1, 1) := by decide +kernel
theorem d2_49 : decode prog_64_method_3_code 49 = .ok (.if_icmp .ge 61, 3) := by decide +kernel
theorem d2_52 : decode prog_64_method_3_code 52 = .ok (.aload_n 0, 1) := by decide +kernel
theorem d2_53 : decode prog_64_method_3_code 53 = .ok (.iload 10, 2) := by decide +kernel
theorem d2_55 : decode prog_64_method_3_code 55 = .ok (.baload, 1) := by decide +kernel
theorem d2_56 : decode prog_64_method_3_code 56 = .ok (.bipush 48, 2) := by decide +kernel
theorem d2_58 : decode prog_64_method_3_code 58 = .ok (.isub, 1) := by decide +kernel
theorem d2_59 : decode prog_64_method_3_code 59 = .ok (.istore 11, 2) := by decide +kernel
theorem d2_61 : decode prog_64_method_3_code 61 = .ok (.iload 11, 2) := by decide +kernel
theorem d2_63 : decode prog_64_method_3_code 63 = .ok (.ifCond .lt 27, 3) := by decide +kernel
theorem d2_66 : decode prog_64_method_3_code 66 = .ok (.iload 11, 2) := by decide +kernel
theorem d2_68 : decode prog_64_method_3_code 68 = .ok (.bipush 9, 2) := by decide +kernel
theorem d2_70 : decode prog_64_method_3_code 70 = .ok (.if_icmp .gt 20, 3) := by decide +kernel
theorem d2_73 : decode prog_64_method_3_code 73 = .ok (.lload 8, 2) := by decide +kernel
theorem d2_75 : decode prog_64_method_3_code 75 = .ok (.ldc2_w 9, 3) := by decide +kernel
theorem d2_78 : decode prog_64_method_3_code 78 = .ok (.iload 11, 2) := by decide +kernel
theorem d2_80 : decode prog_64_method_3_code 80 = .ok (.i2l, 1) := by decide +kernel
theorem d2_81 : decode prog_64_method_3_code 81 = .ok (.ladd, 1) := by decide +kernel
theorem d2_82 : decode prog_64_method_3_code 82 = .ok (.ldc2_w 11, 3) := by decide +kernel
theorem d2_85 : decode prog_64_method_3_code 85 = .ok (.ldiv, 1) := by decide +kernel
theorem d2_86 : decode prog_64_method_3_code 86 = .ok (.lcmp, 1) := by decide +kernel
theorem d2_87 : decode prog_64_method_3_code 87 = .ok (.ifCond .ge 5, 3) := by decide +kernel
theorem d2_90 : decode prog_64_method_3_code 90 = .ok (.iconst 0, 1) := by decide +kernel
theorem d2_91 : decode prog_64_method_3_code 91 = .ok (.ireturn, 1) := by decide +kernel
theorem d2_92 : decode prog_64_method_3_code 92 = .ok (.lload 8, 2) := by decide +kernel
theorem d2_94 : decode prog_64_method_3_code 94 = .ok (.ldc2_w 11, 3) := by decide +kernel
theorem d2_97 : decode prog_64_method_3_code 97 = .ok (.lmul, 1) := by decide +kernel
theorem d2_98 : decode prog_64_method_3_code 98 = .ok (.iload 11, 2) := by decide +kernel
theorem d2_100 : decode prog_64_method_3_code 100 = .ok (.i2l, 1) := by decide +kernel
theorem d2_101 : decode prog_64_method_3_code 101 = .ok (.lsub, 1) := by decide +kernel
theorem d2_102 : decode prog_64_method_3_code 102 = .ok (.lstore 8, 2) := by decide +kernel
theorem d2_104 : decode prog_64_method_3_code 104 = .ok (.iinc 10 1, 3) := by decide +kernel
theorem d2_107 : decode prog_64_method_3_code 107 = .ok (.goto (-61), 3) := by decide +kernel
theorem d2_110 : decode prog_64_method_3_code 110 = .ok (.iload 6, 2) := by decide +kernel
theorem d2_112 : decode prog_64_method_3_code 112 = .ok (.ifCond .eq 18, 3) := by decide +kernel
theorem d2_115 : decode prog_64_method_3_code 115 = .ok (.lload 8, 2) := by decide +kernel
theorem d2_117 : decode prog_64_method_3_code 117 = .ok (.lload_n 2, 1) := by decide +kernel
theorem d2_118 : decode prog_64_method_3_code 118 = .ok (.lcmp, 1) := by decide +kernel
theorem d2_119 : decode prog_64_method_3_code 119 = .ok (.ifCond .lt 7, 3) := by decide +kernel
theorem d2_122 : decode prog_64_method_3_code 122 = .ok (.iconst 1, 1) := by decide +kernel
theorem d2_123 : decode prog_64_method_3_code 123 = .ok (.goto 30, 3) := by decide +kernel
theorem d2_126 : decode prog_64_method_3_code 126 = .ok (.iconst 0, 1) := by decide +kernel
theorem d2_127 : decode prog_64_method_3_code 127 = .ok (.goto 26, 3) := by decide +kernel
theorem d2_130 : decode prog_64_method_3_code 130 = .ok (.lload 8, 2) := by decide +kernel
theorem d2_132 : decode prog_64_method_3_code 132 = .ok (.ldc2_w 9, 3) := by decide +kernel
theorem d2_135 : decode prog_64_method_3_code 135 = .ok (.lcmp, 1) := by decide +kernel
theorem d2_136 : decode prog_64_method_3_code 136 = .ok (.ifCond .eq 16, 3) := by decide +kernel
theorem d2_139 : decode prog_64_method_3_code 139 = .ok (.lload 8, 2) := by decide +kernel
theorem d2_141 : decode prog_64_method_3_code 141 = .ok (.lneg, 1) := by decide +kernel
theorem d2_142 : decode prog_64_method_3_code 142 = .ok (.lload 4, 2) := by decide +kernel
theorem d2_144 : decode prog_64_method_3_code 144 = .ok (.lcmp, 1) := by decide +kernel
theorem d2_145 : decode prog_64_method_3_code 145 = .ok (.ifCond .gt 7, 3) := by decide +kernel
theorem d2_148 : decode prog_64_method_3_code 148 = .ok (.iconst 1, 1) := by decide +kernel
theorem d2_149 : decode prog_64_method_3_code 149 = .ok (.goto 4, 3) := by decide +kernel
theorem d2_152 : decode prog_64_method_3_code 152 = .ok (.iconst 0, 1) := by decide +kernel
theorem d2_153 : decode prog_64_method_3_code 153 = .ok (.ireturn, 1) := by decide +kernel
theorem pn_2 : plainName "com/example/wide_berth/wideberth/postgres/Literals" = true := by first | (simp [plainName, overriddenIn]; done) | decide +kernel
theorem ef_2 (m : MethodId) (r0 : Addr) (p1 : Int32) (q2 : Int64) (q3 : Int64) : entryFrame m #[(.ref r0), (.int p1), (.long q2), (.long q3)] 12 = mkF m 0 #[oR r0, oI p1, oJ q2, oS, oJ q3, oS, oU, oU, oU, oU, oU, oU] [] := by first | (simp [entryFrame, mkF, argsToLocals, Value.category]; done) | rfl
def Q2 (Z : State) (r0 : Addr) (p1 : Int32) (q2 : Int64) (q3 : Int64) (kA : ClassId) (vs : List Value) (f : Nat → Int32) (h0 : Heap) (n0 : Nat) (v : Option Value) (h : Heap) (L : List Loc) : Prop := v = some (.int (own_ii f p1 q2 q3)) ∧ Fr n0 L ∧ h = h0
set_option maxRecDepth 65536 in
set_option maxHeartbeats 40000000 in
theorem rm2 (l : Launch) (Z : State) (a0 : Array Value) (hw : ∀ d ∈ tables_1, d.before a0 Z = true) (ws : List Jvm.Cond) (r0 : Addr) (p1 : Int32) (q2 : Int64) (q3 : Int64) (kA : ClassId) (vs : List Value) (f : Nat → Int32) (h0 : Heap) (n0 : Nat) (Z0 : n0 ≤ h0.size) (PV : Arv Z h0 r0 kA .byte (22 : Int32) vs (.int (0 : Int32))) (HL : 0 ≤ p1.toInt ∧ p1.toInt ≤ 22) (hf : ∀ j, j < 22 → vs.getD j (.int (0 : Int32)) = .int (f j)) :
    MetFree l (⟨"com/example/wide_berth/wideberth/postgres/Literals", "isInteger", "([BIJJ)Z"⟩ : MethodName) (head1 (Jvm.Cond.code (⟨"com/example/wide_berth/wideberth/postgres/Literals", "isInteger", "([BIJJ)Z"⟩ : MethodName) prog_64_method_3_code 12 (some .boolean) :: ws) ({ frames := 0, cells := 0, slots := 0, locals := 0 } : Room)) (fun a U => a = #[(.ref r0), (.int p1), (.long q2), (.long q3)] ∧ Z.Warmed39 U.vm ∧ U.heap = h0) (fun _ _ _ _ _ => True) (fun _ U o U' => ∃ v L, o = .returned v ∧ Q2 Z r0 p1 q2 q3 kA vs f h0 n0 v U'.heap L ∧ FrameEnd U o U' L ({ frames := 0, cells := 0, slots := 0, locals := 0 } : Room).cells ({ frames := 0, cells := 0, slots := 0, locals := 0 } : Room).slots) := by
  refine MetFree.of_bodySF (plainFor_of_name pn_2) hisR ?_
  intro p e s m args below meth c s₁ Bd hml0 hP hK
  obtain ⟨rfl, hZ, hh⟩ := hP
  have hx := Bd.exec
  have hby := Bd.bytes
  have hml : c.maxLocals = 12 := hml0
  have hown : s.vm.findClass "com/example/wide_berth/wideberth/postgres/Literals" = some m.cls := findClass_of_methodNamed Bd.named
  have hnm := (name_of_methodNamed Bd.named Bd.method).1
  have hlk : meth.locks = false := Bd.notSynchronized
  have X0 : Stand p l e ({ frames := 0, cells := 0, slots := 0, locals := 0 } : Room) s m #[(.ref r0), (.int p1), (.long q2), (.long q3)] below meth c s₁ [] 0 0 := Stand.of_body Bd
  have e0 : s₁.heap = h0 := by rw [← hh, Bd.state]; rfl
  have N0 := Fr.nil n0
  refine own_cast (Q := Q2 Z r0 p1 q2 q3 kA vs f h0 n0) (kc := 0) (ks := 0) (ef_2 m r0 p1 q2 q3) ?_
  have J17 : ∀ (ng : Int32) (hng : ng = (own_ng f p1)), own_Go X0 (Q2 Z r0 p1 q2 q3 kA vs f h0 n0) 0 0 17 #[oR r0, oI p1, oJ q2, oS, oJ q3, oS, oU, oU, oU, oU, oU, oU] [(.int ng)] := by
    intro ng hng
    subst hng
    show own_Go X0 (Q2 Z r0 p1 q2 q3 kA vs f h0 n0) 0 0 17 #[oR r0, oI p1, oJ q2, oS, oJ q3, oS, oU, oU, oU, oU, oU, oU] [(.int (own_ng f p1))]
    refine own_st (fun _ k => XS.istore X0.here hx rfl (hb hby d2_17) rfl (l' := #[oR r0, oI p1, oJ q2, oS, oJ q3, oS, oI (own_ng f p1), oU, oU, oU, oU, oU]) rfl k) ?_
    show own_Go X0 (Q2 Z r0 p1 q2 q3 kA vs f h0 n0) 0 0 19 #[oR r0, oI p1, oJ q2, oS, oJ q3, oS, oI (own_ng f p1), oU, oU, oU, oU, oU] []
    have J29 : ∀ (sv : Int32) (hsv : sv = (own_sta (own_ng f p1))), own_Go X0 (Q2 Z r0 p1 q2 q3 kA vs f h0 n0) 0 0 29 #[oR r0, oI p1, oJ q2, oS, oJ q3, oS, oI (own_ng f p1), oU, oU, oU, oU, oU] [(.int sv)] := by
      intro sv hsv
      subst hsv
      show own_Go X0 (Q2 Z r0 p1 q2 q3 kA vs f h0 n0) 0 0 29 #[oR r0, oI p1, oJ q2, oS, oJ q3, oS, oI (own_ng f p1), oU, oU, oU, oU, oU] [(.int (own_sta (own_ng f p1)))]
      refine own_st (fun _ k => XS.istore X0.here hx rfl (hb hby d2_29) rfl (l' := #[oR r0, oI p1, oJ q2, oS, oJ q3, oS, oI (own_ng f p1), oI (own_sta (own_ng f p1)), oU, oU, oU, oU]) rfl k) ?_
      show own_Go X0 (Q2 Z r0 p1 q2 q3 kA vs f h0 n0) 0 0 31 #[oR r0, oI p1, oJ q2, oS, oJ q3, oS, oI (own_ng f p1), oI (own_sta (own_ng f p1)), oU, oU, oU, oU] []
      refine own_st (fun _ k => XS.iload X0.here hx rfl (hb hby d2_31) rfl k) ?_
      show own_Go X0 (Q2 Z r0 p1 q2 q3 kA vs f h0 n0) 0 0 33 #[oR r0, oI p1, oJ q2, oS, oJ q3, oS, oI (own_ng f p1), oI (own_sta (own_ng f p1)), oU, oU, oU, oU] [(.int (own_sta (own_ng f p1)))]
      refine own_st (fun _ k => XS.iloadN X0.here hx rfl (hb hby d2_33) rfl k) ?_
      show own_Go X0 (Q2 Z r0 p1 q2 q3 kA vs f h0 n0) 0 0 34 #[oR r0, oI p1, oJ q2, oS, oJ q3, oS, oI (own_ng f p1), oI (own_sta (own_ng f p1)), oU, oU, oU, oU] [(.int p1), (.int (own_sta (own_ng f p1)))]
      by_cases c34_1 : (own_sta (own_ng f p1)) = p1
      · skip
        refine own_st (fun _ k => XS.icmpNo X0.here hx rfl (hb hby d2_34) rfl (teq c34_1).2 k) ?_
        show own_Go X0 (Q2 Z r0 p1 q2 q3 kA vs f h0 n0) 0 0 37 #[oR r0, oI p1, oJ q2, oS, oJ q3, oS, oI (own_ng f p1), oI (own_sta (own_ng f p1)), oU, oU, oU, oU] []
        refine own_st (fun _ k => XS.iconst X0.here hx rfl (hb hby d2_37) k) ?_
        show own_Go X0 (Q2 Z r0 p1 q2 q3 kA vs f h0 n0) 0 0 38 #[oR r0, oI p1, oJ q2, oS, oJ q3, oS, oI (own_ng f p1), oI (own_sta (own_ng f p1)), oU, oU, oU, oU] [(.int (0 : Int32))]
        refine own_retN X0 hx Bd.returns (by simp) hlk e0 (hb hby d2_38) (by decide) (by decide) ?_
        have hr : own_ii f p1 q2 q3 = 0 := by unfold own_ii; rw [if_pos c34_1]
        exact ⟨by rw [hr]; rfl, N0, rfl⟩
      · skip
        refine own_st (fun _ k => XS.icmpYes X0.here hx rfl (pc0 := 34) (pc' := 39) rfl (hb hby d2_34) rfl (feq c34_1).2 (by decide) (by decide) k) ?_
        show own_Go X0 (Q2 Z r0 p1 q2 q3 kA vs f h0 n0) 0 0 39 #[oR r0, oI p1, oJ q2, oS, oJ q3, oS, oI (own_ng f p1), oI (own_sta (own_ng f p1)), oU, oU, oU, oU] []
        refine own_st (fun _ k => XS.lconst X0.here hx rfl (hb hby d2_39) k) ?_
        show own_Go X0 (Q2 Z r0 p1 q2 q3 kA vs f h0 n0) 0 0 40 #[oR r0, oI p1, oJ q2, oS, oJ q3, oS, oI (own_ng f p1), oI (own_sta (own_ng f p1)), oU, oU, oU, oU] [(.long (0 : Int64))]
        refine own_st (fun _ k => XS.lstore X0.here hx rfl (hb hby d2_40) rfl (l' := #[oR r0, oI p1, oJ q2, oS, oJ q3, oS, oI (own_ng f p1), oI (own_sta (own_ng f p1)), oJ (0 : Int64), oS, oU, oU]) rfl k) ?_
        show own_Go X0 (Q2 Z r0 p1 q2 q3 kA vs f h0 n0) 0 0 42 #[oR r0, oI p1, oJ q2, oS, oJ q3, oS, oI (own_ng f p1), oI (own_sta (own_ng f p1)), oJ (0 : Int64), oS, oU, oU] []
        refine own_st (fun _ k => XS.iload X0.here hx rfl (hb hby d2_42) rfl k) ?_
        show own_Go X0 (Q2 Z r0 p1 q2 q3 kA vs f h0 n0) 0 0 44 #[oR r0, oI p1, oJ q2, oS, oJ q3, oS, oI (own_ng f p1), oI (own_sta (own_ng f p1)), oJ (0 : Int64), oS, oU, oU] [(.int (own_sta (own_ng f p1)))]
        refine own_st (fun _ k => XS.istore X0.here hx rfl (hb hby d2_44) rfl (l' := #[oR r0, oI p1, oJ q2, oS, oJ q3, oS, oI (own_ng f p1), oI (own_sta (own_ng f p1)), oJ (0 : Int64), oS, oI (own_sta (own_ng f p1)), oU]) rfl k) ?_
        show own_Go X0 (Q2 Z r0 p1 q2 q3 kA vs f h0 n0) 0 0 46 #[oR r0, oI p1, oJ q2, oS, oJ q3, oS, oI (own_ng f p1), oI (own_sta (own_ng f p1)), oJ (0 : Int64), oS, oI (own_sta (own_ng f p1)), oU] []
        have loop : ∀ (k : Nat) (ii : Int32) (sm : Int64) (sl : Slot), (sl = .unset ∨ ∃ w, sl = .val w ∧ w.category = 1) → ii.toInt + k = p1.toInt → 0 ≤ ii.toInt → own_sc f k ii.toInt.toNat sm = own_sc f (p1.toInt - (own_sta (own_ng f p1)).toInt).toNat (own_sta (own_ng f p1)).toInt.toNat (0 : Int64) → own_Go X0 (Q2 Z r0 p1 q2 q3 kA vs f h0 n0) 0 0 46 #[oR r0, oI p1, oJ q2, oS, oJ q3, oS, oI (own_ng f p1), oI (own_sta (own_ng f p1)), oJ sm, oS, oI ii, sl] [] := by
          intro k
          induction k with
          | zero =>
            intro ii sm sl hsl hk hi0 hres
            refine own_st (fun _ k => XS.iload X0.here hx rfl (hb hby d2_46) rfl k) ?_
            show own_Go X0 (Q2 Z r0 p1 q2 q3 kA vs f h0 n0) 0 0 48 #[oR r0, oI p1, oJ q2, oS, oJ q3, oS, oI (own_ng f p1), oI (own_sta (own_ng f p1)), oJ sm, oS, oI ii, sl] [(.int ii)]
            refine own_st (fun _ k => XS.iloadN X0.here hx rfl (hb hby d2_48) rfl k) ?_
            show own_Go X0 (Q2 Z r0 p1 q2 q3 kA vs f h0 n0) 0 0 49 #[oR r0, oI p1, oJ q2, oS, oJ q3, oS, oI (own_ng f p1), oI (own_sta (own_ng f p1)), oJ sm, oS, oI ii, sl] [(.int p1), (.int ii)]
            have c49_2 : ¬ (ii < p1) := by rw [Int32.lt_iff_toInt_lt]; omega
            refine own_st (fun _ k => XS.icmpYes X0.here hx rfl (pc0 := 49) (pc' := 110) rfl (hb hby d2_49) rfl (flt c49_2).2.1 (by decide) (by decide) k) ?_
            show own_Go X0 (Q2 Z r0 p1 q2 q3 kA vs f h0 n0) 0 0 110 #[oR r0, oI p1, oJ q2, oS, oJ q3, oS, oI (own_ng f p1), oI (own_sta (own_ng f p1)), oJ sm, oS, oI ii, sl] []
            refine own_st (fun _ k => XS.iload X0.here hx rfl (hb hby d2_110) rfl k) ?_
            show own_Go X0 (Q2 Z r0 p1 q2 q3 kA vs f h0 n0) 0 0 112 #[oR r0, oI p1, oJ q2, oS, oJ q3, oS, oI (own_ng f p1), oI (own_sta (own_ng f p1)), oJ sm, oS, oI ii, sl] [(.int (own_ng f p1))]
            by_cases c112_3 : (own_ng f p1) = (0 : Int32)
            · skip
              refine own_st (fun _ k => XS.ifYes X0.here hx rfl (pc0 := 112) (pc' := 130) rfl (hb hby d2_112) rfl ((if0 _ _).trans (teq c112_3).1) (by decide) (by decide) k) ?_
              show own_Go X0 (Q2 Z r0 p1 q2 q3 kA vs f h0 n0) 0 0 130 #[oR r0, oI p1, oJ q2, oS, oJ q3, oS, oI (own_ng f p1), oI (own_sta (own_ng f p1)), oJ sm, oS, oI ii, sl] []
              refine own_st (fun _ k => XS.lload X0.here hx rfl (hb hby d2_130) rfl k) ?_
              show own_Go X0 (Q2 Z r0 p1 q2 q3 kA vs f h0 n0) 0 0 132 #[oR r0, oI p1, oJ q2, oS, oJ q3, oS, oI (own_ng f p1), oI (own_sta (own_ng f p1)), oJ sm, oS, oI ii, sl] [(.long sm)]
              refine own_st (fun t k => X0.ldc2Long hx hown (mvT hZ (hw _ (List.mem_of_getElem? (i := 31) rfl))) (g := (mkF m 132 #[oR r0, oI p1, oJ q2, oS, oJ q3, oS, oI (own_ng f p1), oI (own_sta (own_ng f p1)), oJ sm, oS, oI ii, sl] [(.long sm)])) rfl (hb hby d2_132) t k) ?_
              show own_Go X0 (Q2 Z r0 p1 q2 q3 kA vs f h0 n0) 0 0 135 #[oR r0, oI p1, oJ q2, oS, oJ q3, oS, oI (own_ng f p1), oI (own_sta (own_ng f p1)), oJ sm, oS, oI ii, sl] [(.long (-9223372036854775808 : Int64)), (.long sm)]
              refine own_st (fun _ k => XS.lcmp X0.here hx rfl (hb hby d2_135) rfl k) ?_
              show own_Go X0 (Q2 Z r0 p1 q2 q3 kA vs f h0 n0) 0 0 136 #[oR r0, oI p1, oJ q2, oS, oJ q3, oS, oI (own_ng f p1), oI (own_sta (own_ng f p1)), oJ sm, oS, oI ii, sl] [(.int (lcmpW sm (-9223372036854775808 : Int64)))]
              by_cases c136_4 : sm = (-9223372036854775808 : Int64)
              · skip
                refine own_st (fun _ k => XS.ifYes X0.here hx rfl (pc0 := 136) (pc' := 152) rfl (hb hby d2_136) rfl ((if0 _ _).trans (teq ((lw_eq _ _).mpr c136_4)).1) (by decide) (by decide) k) ?_
                show own_Go X0 (Q2 Z r0 p1 q2 q3 kA vs f h0 n0) 0 0 152 #[oR r0, oI p1, oJ q2, oS, oJ q3, oS, oI (own_ng f p1), oI (own_sta (own_ng f p1)), oJ sm, oS, oI ii, sl] []
                refine own_st (fun _ k => XS.iconst X0.here hx rfl (hb hby d2_152) k) ?_
                show own_Go X0 (Q2 Z r0 p1 q2 q3 kA vs f h0 n0) 0 0 153 #[oR r0, oI p1, oJ q2, oS, oJ q3, oS, oI (own_ng f p1), oI (own_sta (own_ng f p1)), oJ sm, oS, oI ii, sl] [(.int (0 : Int32))]
                refine own_retN X0 hx Bd.returns (by simp) hlk e0 (hb hby d2_153) (by decide) (by decide) ?_
                have hr : own_ii f p1 q2 q3 = (0 : Int32) := by unfold own_ii; rw [if_neg c34_1, ← hres]; show (if _ then _ else _) = _; rw [if_pos c112_3, if_pos c136_4]
                exact ⟨by rw [hr]; rfl, N0, rfl⟩
              · skip
                refine own_st (fun _ k => XS.ifNo X0.here hx rfl (hb hby d2_136) rfl ((if0 _ _).trans (feq (fun q => c136_4 ((lw_eq _ _).mp q))).1) k) ?_
                show own_Go X0 (Q2 Z r0 p1 q2 q3 kA vs f h0 n0) 0 0 139 #[oR r0, oI p1, oJ q2, oS, oJ q3, oS, oI (own_ng f p1), oI (own_sta (own_ng f p1)), oJ sm, oS, oI ii, sl] []
                refine own_st (fun _ k => XS.lload X0.here hx rfl (hb hby d2_139) rfl k) ?_
                show own_Go X0 (Q2 Z r0 p1 q2 q3 kA vs f h0 n0) 0 0 141 #[oR r0, oI p1, oJ q2, oS, oJ q3, oS, oI (own_ng f p1), oI (own_sta (own_ng f p1)), oJ sm, oS, oI ii, sl] [(.long sm)]
                refine own_st (fun _ k => XS.lneg X0.here hx rfl (hb hby d2_141) rfl k) ?_
                show own_Go X0 (Q2 Z r0 p1 q2 q3 kA vs f h0 n0) 0 0 142 #[oR r0, oI p1, oJ q2, oS, oJ q3, oS, oI (own_ng f p1), oI (own_sta (own_ng f p1)), oJ sm, oS, oI ii, sl] [(.long (-sm))]
                refine own_st (fun _ k => XS.lload X0.here hx rfl (hb hby d2_142) rfl k) ?_
                show own_Go X0 (Q2 Z r0 p1 q2 q3 kA vs f h0 n0) 0 0 144 #[oR r0, oI p1, oJ q2, oS, oJ q3, oS, oI (own_ng f p1), oI (own_sta (own_ng f p1)), oJ sm, oS, oI ii, sl] [(.long q3), (.long (-sm))]
                refine own_st (fun _ k => XS.lcmp X0.here hx rfl (hb hby d2_144) rfl k) ?_
                show own_Go X0 (Q2 Z r0 p1 q2 q3 kA vs f h0 n0) 0 0 145 #[oR r0, oI p1, oJ q2, oS, oJ q3, oS, oI (own_ng f p1), oI (own_sta (own_ng f p1)), oJ sm, oS, oI ii, sl] [(.int (lcmpW (-sm) q3))]
                by_cases c145_5 : q3 < (-sm)
                · skip
                  refine own_st (fun _ k => XS.ifYes X0.here hx rfl (pc0 := 145) (pc' := 152) rfl (hb hby d2_145) rfl ((if0 _ _).trans (tlt ((lw_gt _ _).mpr c145_5)).2.2.1) (by decide) (by decide) k) ?_
                  show own_Go X0 (Q2 Z r0 p1 q2 q3 kA vs f h0 n0) 0 0 152 #[oR r0, oI p1, oJ q2, oS, oJ q3, oS, oI (own_ng f p1), oI (own_sta (own_ng f p1)), oJ sm, oS, oI ii, sl] []
                  refine own_st (fun _ k => XS.iconst X0.here hx rfl (hb hby d2_152) k) ?_
                  show own_Go X0 (Q2 Z r0 p1 q2 q3 kA vs f h0 n0) 0 0 153 #[oR r0, oI p1, oJ q2, oS, oJ q3, oS, oI (own_ng f p1), oI (own_sta (own_ng f p1)), oJ sm, oS, oI ii, sl] [(.int (0 : Int32))]
                  refine own_retN X0 hx Bd.returns (by simp) hlk e0 (hb hby d2_153) (by decide) (by decide) ?_
                  have hr : own_ii f p1 q2 q3 = (0 : Int32) := by unfold own_ii; rw [if_neg c34_1, ← hres]; show (if _ then _ else _) = _; rw [if_pos c112_3, if_neg c136_4, if_pos c145_5]
                  exact ⟨by rw [hr]; rfl, N0, rfl⟩
                · skip
                  refine own_st (fun _ k => XS.ifNo X0.here hx rfl (hb hby d2_145) rfl ((if0 _ _).trans (flt (fun q => c145_5 ((lw_gt _ _).mp q))).2.2.1) k) ?_
                  show own_Go X0 (Q2 Z r0 p1 q2 q3 kA vs f h0 n0) 0 0 148 #[oR r0, oI p1, oJ q2, oS, oJ q3, oS, oI (own_ng f p1), oI (own_sta (own_ng f p1)), oJ sm, oS, oI ii, sl] []
                  refine own_st (fun _ k => XS.iconst X0.here hx rfl (hb hby d2_148) k) ?_
                  show own_Go X0 (Q2 Z r0 p1 q2 q3 kA vs f h0 n0) 0 0 149 #[oR r0, oI p1, oJ q2, oS, oJ q3, oS, oI (own_ng f p1), oI (own_sta (own_ng f p1)), oJ sm, oS, oI ii, sl] [(.int (1 : Int32))]
                  refine own_st (fun _ k => XS.goto X0.here hx rfl (pc0 := 149) (pc' := 153) rfl (hb hby d2_149) (by decide) (by decide) k) ?_
                  show own_Go X0 (Q2 Z r0 p1 q2 q3 kA vs f h0 n0) 0 0 153 #[oR r0, oI p1, oJ q2, oS, oJ q3, oS, oI (own_ng f p1), oI (own_sta (own_ng f p1)), oJ sm, oS, oI ii, sl] [(.int (1 : Int32))]
                  refine own_retN X0 hx Bd.returns (by simp) hlk e0 (hb hby d2_153) (by decide) (by decide) ?_
                  have hr : own_ii f p1 q2 q3 = (1 : Int32) := by unfold own_ii; rw [if_neg c34_1, ← hres]; show (if _ then _ else _) = _; rw [if_pos c112_3, if_neg c136_4, if_neg c145_5]
                  exact ⟨by rw [hr]; rfl, N0, rfl⟩
            · skip
              refine own_st (fun _ k => XS.ifNo X0.here hx rfl (hb hby d2_112) rfl ((if0 _ _).trans (feq c112_3).1) k) ?_
              show own_Go X0 (Q2 Z r0 p1 q2 q3 kA vs f h0 n0) 0 0 115 #[oR r0, oI p1, oJ q2, oS, oJ q3, oS, oI (own_ng f p1), oI (own_sta (own_ng f p1)), oJ sm, oS, oI ii, sl] []
              refine own_st (fun _ k => XS.lload X0.here hx rfl (hb hby d2_115) rfl k) ?_
              show own_Go X0 (Q2 Z r0 p1 q2 q3 kA vs f h0 n0) 0 0 117 #[oR r0, oI p1, oJ q2, oS, oJ q3, oS, oI (own_ng f p1), oI (own_sta (own_ng f p1)), oJ sm, oS, oI ii, sl] [(.long sm)]
              refine own_st (fun _ k => XS.lloadN X0.here hx rfl (hb hby d2_117) rfl k) ?_
              show own_Go X0 (Q2 Z r0 p1 q2 q3 kA vs f h0 n0) 0 0 118 #[oR r0, oI p1, oJ q2, oS, oJ q3, oS, oI (own_ng f p1), oI (own_sta (own_ng f p1)), oJ sm, oS, oI ii, sl] [(.long q2), (.long sm)]
              refine own_st (fun _ k => XS.lcmp X0.here hx rfl (hb hby d2_118) rfl k) ?_
              show own_Go X0 (Q2 Z r0 p1 q2 q3 kA vs f h0 n0) 0 0 119 #[oR r0, oI p1, oJ q2, oS, oJ q3, oS, oI (own_ng f p1), oI (own_sta (own_ng f p1)), oJ sm, oS, oI ii, sl] [(.int (lcmpW sm q2))]
              by_cases c119_6 : sm < q2
              · skip
                refine own_st (fun _ k => XS.ifYes X0.here hx rfl (pc0 := 119) (pc' := 126) rfl (hb hby d2_119) rfl ((if0 _ _).trans (tlt ((lw_lt _ _).mpr c119_6)).1) (by decide) (by decide) k) ?_
                show own_Go X0 (Q2 Z r0 p1 q2 q3 kA vs f h0 n0) 0 0 126 #[oR r0, oI p1, oJ q2, oS, oJ q3, oS, oI (own_ng f p1), oI (own_sta (own_ng f p1)), oJ sm, oS, oI ii, sl] []
                refine own_st (fun _ k => XS.iconst X0.here hx rfl (hb hby d2_126) k) ?_
                show own_Go X0 (Q2 Z r0 p1 q2 q3 kA vs f h0 n0) 0 0 127 #[oR r0, oI p1, oJ q2, oS, oJ q3, oS, oI (own_ng f p1), oI (own_sta (own_ng f p1)), oJ sm, oS, oI ii, sl] [(.int (0 : Int32))]
                refine own_st (fun _ k => XS.goto X0.here hx rfl (pc0 := 127) (pc' := 153) rfl (hb hby d2_127) (by decide) (by decide) k) ?_
                show own_Go X0 (Q2 Z r0 p1 q2 q3 kA vs f h0 n0) 0 0 153 #[oR r0, oI p1, oJ q2, oS, oJ q3, oS, oI (own_ng f p1), oI (own_sta (own_ng f p1)), oJ sm, oS, oI ii, sl] [(.int (0 : Int32))]
                refine own_retN X0 hx Bd.returns (by simp) hlk e0 (hb hby d2_153) (by decide) (by decide) ?_
                have hr : own_ii f p1 q2 q3 = (0 : Int32) := by unfold own_ii; rw [if_neg c34_1, ← hres]; show (if _ then _ else _) = _; rw [if_neg c112_3, if_pos c119_6]
                exact ⟨by rw [hr]; rfl, N0, rfl⟩
              · skip
                refine own_st (fun _ k => XS.ifNo X0.here hx rfl (hb hby d2_119) rfl ((if0 _ _).trans (flt (fun q => c119_6 ((lw_lt _ _).mp q))).1) k) ?_
                show own_Go X0 (Q2 Z r0 p1 q2 q3 kA vs f h0 n0) 0 0 122 #[oR r0, oI p1, oJ q2, oS, oJ q3, oS, oI (own_ng f p1), oI (own_sta (own_ng f p1)), oJ sm, oS, oI ii, sl] []
                refine own_st (fun _ k => XS.iconst X0.here hx rfl (hb hby d2_122) k) ?_
                show own_Go X0 (Q2 Z r0 p1 q2 q3 kA vs f h0 n0) 0 0 123 #[oR r0, oI p1, oJ q2, oS, oJ q3, oS, oI (own_ng f p1), oI (own_sta (own_ng f p1)), oJ sm, oS, oI ii, sl] [(.int (1 : Int32))]
                refine own_st (fun _ k => XS.goto X0.here hx rfl (pc0 := 123) (pc' := 153) rfl (hb hby d2_123) (by decide) (by decide) k) ?_
                show own_Go X0 (Q2 Z r0 p1 q2 q3 kA vs f h0 n0) 0 0 153 #[oR r0, oI p1, oJ q2, oS, oJ q3, oS, oI (own_ng f p1), oI (own_sta (own_ng f p1)), oJ sm, oS, oI ii, sl] [(.int (1 : Int32))]
                refine own_retN X0 hx Bd.returns (by simp) hlk e0 (hb hby d2_153) (by decide) (by decide) ?_
                have hr : own_ii f p1 q2 q3 = (1 : Int32) := by unfold own_ii; rw [if_neg c34_1, ← hres]; show (if _ then _ else _) = _; rw [if_neg c112_3, if_neg c119_6]
                exact ⟨by rw [hr]; rfl, N0, rfl⟩
          | succ k ih =>
            intro ii sm sl hsl hk hi0 hres
            have hX := own_ixn hi0 hk HL.2
            refine own_st (fun _ k => XS.iload X0.here hx rfl (hb hby d2_46) rfl k) ?_
            show own_Go X0 (Q2 Z r0 p1 q2 q3 kA vs f h0 n0) 0 0 48 #[oR r0, oI p1, oJ q2, oS, oJ q3, oS, oI (own_ng f p1), oI (own_sta (own_ng f p1)), oJ sm, oS, oI ii, sl] [(.int ii)]
            refine own_st (fun _ k => XS.iloadN X0.here hx rfl (hb hby d2_48) rfl k) ?_
            show own_Go X0 (Q2 Z r0 p1 q2 q3 kA vs f h0 n0) 0 0 49 #[oR r0, oI p1, oJ q2, oS, oJ q3, oS, oI (own_ng f p1), oI (own_sta (own_ng f p1)), oJ sm, oS, oI ii, sl] [(.int p1), (.int ii)]
            have c49_7 : ii < p1 := hX.2.1
            refine own_st (fun _ k => XS.icmpNo X0.here hx rfl (hb hby d2_49) rfl (tlt c49_7).2.1 k) ?_
            show own_Go X0 (Q2 Z r0 p1 q2 q3 kA vs f h0 n0) 0 0 52 #[oR r0, oI p1, oJ q2, oS, oJ q3, oS, oI (own_ng f p1), oI (own_sta (own_ng f p1)), oJ sm, oS, oI ii, sl] []
            refine own_st (fun _ k => XS.aloadN X0.here hx rfl (hb hby d2_52) rfl rfl k) ?_
            show own_Go X0 (Q2 Z r0 p1 q2 q3 kA vs f h0 n0) 0 0 53 #[oR r0, oI p1, oJ q2, oS, oJ q3, oS, oI (own_ng f p1), oI (own_sta (own_ng f p1)), oJ sm, oS, oI ii, sl] [(.ref r0)]
            refine own_st (fun _ k => XS.iload X0.here hx rfl (hb hby d2_53) rfl k) ?_
            show own_Go X0 (Q2 Z r0 p1 q2 q3 kA vs f h0 n0) 0 0 55 #[oR r0, oI p1, oJ q2, oS, oJ q3, oS, oI (own_ng f p1), oI (own_sta (own_ng f p1)), oJ sm, oS, oI ii, sl] [(.int ii), (.ref r0)]
            refine own_st (fun _ k => own_ldB X0 hx hZ e0 PV (j := ii) hX.1 (v := (.int (f ii.toInt.toNat))) (by rw [hX.2.2.1]; exact hf _ hX.2.2.2.1) (g := (mkF m 55 #[oR r0, oI p1, oJ q2, oS, oJ q3, oS, oI (own_ng f p1), oI (own_sta (own_ng f p1)), oJ sm, oS, oI ii, sl] [(.int ii), (.ref r0)])) rfl rfl (hb hby d2_55) _ k) ?_
            show own_Go X0 (Q2 Z r0 p1 q2 q3 kA vs f h0 n0) 0 0 56 #[oR r0, oI p1, oJ q2, oS, oJ q3, oS, oI (own_ng f p1), oI (own_sta (own_ng f p1)), oJ sm, oS, oI ii, sl] [(.int (f ii.toInt.toNat))]
            refine own_st (fun _ k => XS.bipush X0.here hx rfl (hb hby d2_56) k) ?_
            show own_Go X0 (Q2 Z r0 p1 q2 q3 kA vs f h0 n0) 0 0 58 #[oR r0, oI p1, oJ q2, oS, oJ q3, oS, oI (own_ng f p1), oI (own_sta (own_ng f p1)), oJ sm, oS, oI ii, sl] [(.int (48 : Int32)), (.int (f ii.toInt.toNat))]
            refine own_st (fun _ k => XS.isub X0.here hx rfl (hb hby d2_58) rfl k) ?_
            show own_Go X0 (Q2 Z r0 p1 q2 q3 kA vs f h0 n0) 0 0 59 #[oR r0, oI p1, oJ q2, oS, oJ q3, oS, oI (own_ng f p1), oI (own_sta (own_ng f p1)), oJ sm, oS, oI ii, sl] [(.int ((f ii.toInt.toNat) - (48 : Int32)))]
            refine own_st (fun _ k => XS.istoreS X0.here hx rfl (hb hby d2_59) rfl rfl hsl k) ?_
            show own_Go X0 (Q2 Z r0 p1 q2 q3 kA vs f h0 n0) 0 0 61 #[oR r0, oI p1, oJ q2, oS, oJ q3, oS, oI (own_ng f p1), oI (own_sta (own_ng f p1)), oJ sm, oS, oI ii, oI ((f ii.toInt.toNat) - (48 : Int32))] []
            refine own_st (fun _ k => XS.iload X0.here hx rfl (hb hby d2_61) rfl k) ?_
            show own_Go X0 (Q2 Z r0 p1 q2 q3 kA vs f h0 n0) 0 0 63 #[oR r0, oI p1, oJ q2, oS, oJ q3, oS, oI (own_ng f p1), oI (own_sta (own_ng f p1)), oJ sm, oS, oI ii, oI ((f ii.toInt.toNat) - (48 : Int32))] [(.int ((f ii.toInt.toNat) - (48 : Int32)))]
            by_cases c63_8 : ((f ii.toInt.toNat) - (48 : Int32)) < (0 : Int32)
            · skip
              refine own_st (fun _ k => XS.ifYes X0.here hx rfl (pc0 := 63) (pc' := 90) rfl (hb hby d2_63) rfl ((if0 _ _).trans (tlt c63_8).1) (by decide) (by decide) k) ?_
              show own_Go X0 (Q2 Z r0 p1 q2 q3 kA vs f h0 n0) 0 0 90 #[oR r0, oI p1, oJ q2, oS, oJ q3, oS, oI (own_ng f p1), oI (own_sta (own_ng f p1)), oJ sm, oS, oI ii, oI ((f ii.toInt.toNat) - (48 : Int32))] []
              refine own_st (fun _ k => XS.iconst X0.here hx rfl (hb hby d2_90) k) ?_
              show own_Go X0 (Q2 Z r0 p1 q2 q3 kA vs f h0 n0) 0 0 91 #[oR r0, oI p1, oJ q2, oS, oJ q3, oS, oI (own_ng f p1), oI (own_sta (own_ng f p1)), oJ sm, oS, oI ii, oI ((f ii.toInt.toNat) - (48 : Int32))] [(.int (0 : Int32))]
              refine own_retN X0 hx Bd.returns (by simp) hlk e0 (hb hby d2_91) (by decide) (by decide) ?_
              have hr : own_ii f p1 q2 q3 = 0 := by unfold own_ii; rw [if_neg c34_1, ← hres, own_sc1 c63_8]; rfl
              exact ⟨by rw [hr]; rfl, N0, rfl⟩
            · skip
              refine own_st (fun _ k => XS.ifNo X0.here hx rfl (hb hby d2_63) rfl ((if0 _ _).trans (flt c63_8).1) k) ?_
              show own_Go X0 (Q2 Z r0 p1 q2 q3 kA vs f h0 n0) 0 0 66 #[oR r0, oI p1, oJ q2, oS, oJ q3, oS, oI (own_ng f p1), oI (own_sta (own_ng f p1)), oJ sm, oS, oI ii, oI ((f ii.toInt.toNat) - (48 : Int32))] []
              refine own_st (fun _ k => XS.iload X0.here hx rfl (hb hby d2_66) rfl k) ?_
              show own_Go X0 (Q2 Z r0 p1 q2 q3 kA vs f h0 n0) 0 0 68 #[oR r0, oI p1, oJ q2, oS, oJ q3, oS, oI (own_ng f p1), oI (own_sta (own_ng f p1)), oJ sm, oS, oI ii, oI ((f ii.toInt.toNat) - (48 : Int32))] [(.int ((f ii.toInt.toNat) - (48 : Int32)))]
              refine own_st (fun _ k => XS.bipush X0.here hx rfl (hb hby d2_68) k) ?_
              show own_Go X0 (Q2 Z r0 p1 q2 q3 kA vs f h0 n0) 0 0 70 #[oR r0, oI p1, oJ q2, oS, oJ q3, oS, oI (own_ng f p1), oI (own_sta (own_ng f p1)), oJ sm, oS, oI ii, oI ((f ii.toInt.toNat) - (48 : Int32))] [(.int (9 : Int32)), (.int ((f ii.toInt.toNat) - (48 : Int32)))]
              by_cases c70_9 : (9 : Int32) < ((f ii.toInt.toNat) - (48 : Int32))
              · skip
                refine own_st (fun _ k => XS.icmpYes X0.here hx rfl (pc0 := 70) (pc' := 90) rfl (hb hby d2_70) rfl (tlt c70_9).2.2.1 (by decide) (by decide) k) ?_
                show own_Go X0 (Q2 Z r0 p1 q2 q3 kA vs f h0 n0) 0 0 90 #[oR r0, oI p1, oJ q2, oS, oJ q3, oS, oI (own_ng f p1), oI (own_sta (own_ng f p1)), oJ sm, oS, oI ii, oI ((f ii.toInt.toNat) - (48 : Int32))] []
                refine own_st (fun _ k => XS.iconst X0.here hx rfl (hb hby d2_90) k) ?_
                show own_Go X0 (Q2 Z r0 p1 q2 q3 kA vs f h0 n0) 0 0 91 #[oR r0, oI p1, oJ q2, oS, oJ q3, oS, oI (own_ng f p1), oI (own_sta (own_ng f p1)), oJ sm, oS, oI ii, oI ((f ii.toInt.toNat) - (48 : Int32))] [(.int (0 : Int32))]
                refine own_retN X0 hx Bd.returns (by simp) hlk e0 (hb hby d2_91) (by decide) (by decide) ?_
                have hr : own_ii f p1 q2 q3 = 0 := by unfold own_ii; rw [if_neg c34_1, ← hres, own_sc2 c63_8 c70_9]; rfl
                exact ⟨by rw [hr]; rfl, N0, rfl⟩
              · skip
                refine own_st (fun _ k => XS.icmpNo X0.here hx rfl (hb hby d2_70) rfl (flt c70_9).2.2.1 k) ?_
                show own_Go X0 (Q2 Z r0 p1 q2 q3 kA vs f h0 n0) 0 0 73 #[oR r0, oI p1, oJ q2, oS, oJ q3, oS, oI (own_ng f p1), oI (own_sta (own_ng f p1)), oJ sm, oS, oI ii, oI ((f ii.toInt.toNat) - (48 : Int32))] []
                refine own_st (fun _ k => XS.lload X0.here hx rfl (hb hby d2_73) rfl k) ?_
                show own_Go X0 (Q2 Z r0 p1 q2 q3 kA vs f h0 n0) 0 0 75 #[oR r0, oI p1, oJ q2, oS, oJ q3, oS, oI (own_ng f p1), oI (own_sta (own_ng f p1)), oJ sm, oS, oI ii, oI ((f ii.toInt.toNat) - (48 : Int32))] [(.long sm)]
                refine own_st (fun t k => X0.ldc2Long hx hown (mvT hZ (hw _ (List.mem_of_getElem? (i := 31) rfl))) (g := (mkF m 75 #[oR r0, oI p1, oJ q2, oS, oJ q3, oS, oI (own_ng f p1), oI (own_sta (own_ng f p1)), oJ sm, oS, oI ii, oI ((f ii.toInt.toNat) - (48 : Int32))] [(.long sm)])) rfl (hb hby d2_75) t k) ?_
                show own_Go X0 (Q2 Z r0 p1 q2 q3 kA vs f h0 n0) 0 0 78 #[oR r0, oI p1, oJ q2, oS, oJ q3, oS, oI (own_ng f p1), oI (own_sta (own_ng f p1)), oJ sm, oS, oI ii, oI ((f ii.toInt.toNat) - (48 : Int32))] [(.long (-9223372036854775808 : Int64)), (.long sm)]
                refine own_st (fun _ k => XS.iload X0.here hx rfl (hb hby d2_78) rfl k) ?_
                show own_Go X0 (Q2 Z r0 p1 q2 q3 kA vs f h0 n0) 0 0 80 #[oR r0, oI p1, oJ q2, oS, oJ q3, oS, oI (own_ng f p1), oI (own_sta (own_ng f p1)), oJ sm, oS, oI ii, oI ((f ii.toInt.toNat) - (48 : Int32))] [(.int ((f ii.toInt.toNat) - (48 : Int32))), (.long (-9223372036854775808 : Int64)), (.long sm)]
                refine own_st (fun _ k => XS.i2l X0.here hx rfl (hb hby d2_80) rfl k) ?_
                show own_Go X0 (Q2 Z r0 p1 q2 q3 kA vs f h0 n0) 0 0 81 #[oR r0, oI p1, oJ q2, oS, oJ q3, oS, oI (own_ng f p1), oI (own_sta (own_ng f p1)), oJ sm, oS, oI ii, oI ((f ii.toInt.toNat) - (48 : Int32))] [(.long (((f ii.toInt.toNat) - (48 : Int32)).toInt64)), (.long (-9223372036854775808 : Int64)), (.long sm)]
                refine own_st (fun _ k => XS.ladd X0.here hx rfl (hb hby d2_81) rfl k) ?_
                show own_Go X0 (Q2 Z r0 p1 q2 q3 kA vs f h0 n0) 0 0 82 #[oR r0, oI p1, oJ q2, oS, oJ q3, oS, oI (own_ng f p1), oI (own_sta (own_ng f p1)), oJ sm, oS, oI ii, oI ((f ii.toInt.toNat) - (48 : Int32))] [(.long ((-9223372036854775808 : Int64) + (((f ii.toInt.toNat) - (48 : Int32)).toInt64))), (.long sm)]
                refine own_st (fun t k => X0.ldc2Long hx hown (mvT hZ (hw _ (List.mem_of_getElem? (i := 32) rfl))) (g := (mkF m 82 #[oR r0, oI p1, oJ q2, oS, oJ q3, oS, oI (own_ng f p1), oI (own_sta (own_ng f p1)), oJ sm, oS, oI ii, oI ((f ii.toInt.toNat) - (48 : Int32))] [(.long ((-9223372036854775808 : Int64) + (((f ii.toInt.toNat) - (48 : Int32)).toInt64))), (.long sm)])) rfl (hb hby d2_82) t k) ?_
                show own_Go X0 (Q2 Z r0 p1 q2 q3 kA vs f h0 n0) 0 0 85 #[oR r0, oI p1, oJ q2, oS, oJ q3, oS, oI (own_ng f p1), oI (own_sta (own_ng f p1)), oJ sm, oS, oI ii, oI ((f ii.toInt.toNat) - (48 : Int32))] [(.long (10 : Int64)), (.long ((-9223372036854775808 : Int64) + (((f ii.toInt.toNat) - (48 : Int32)).toInt64))), (.long sm)]
                refine own_st (fun _ k => XS.ldiv X0.here hx rfl (hb hby d2_85) rfl (by decide) k) ?_
                show own_Go X0 (Q2 Z r0 p1 q2 q3 kA vs f h0 n0) 0 0 86 #[oR r0, oI p1, oJ q2, oS, oJ q3, oS, oI (own_ng f p1), oI (own_sta (own_ng f p1)), oJ sm, oS, oI ii, oI ((f ii.toInt.toNat) - (48 : Int32))] [(.long (((-9223372036854775808 : Int64) + (((f ii.toInt.toNat) - (48 : Int32)).toInt64)) / (10 : Int64))), (.long sm)]
                refine own_st (fun _ k => XS.lcmp X0.here hx rfl (hb hby d2_86) rfl k) ?_
                show own_Go X0 (Q2 Z r0 p1 q2 q3 kA vs f h0 n0) 0 0 87 #[oR r0, oI p1, oJ q2, oS, oJ q3, oS, oI (own_ng f p1), oI (own_sta (own_ng f p1)), oJ sm, oS, oI ii, oI ((f ii.toInt.toNat) - (48 : Int32))] [(.int (lcmpW sm (((-9223372036854775808 : Int64) + (((f ii.toInt.toNat) - (48 : Int32)).toInt64)) / (10 : Int64))))]
                by_cases c87_10 : sm < (((-9223372036854775808 : Int64) + (((f ii.toInt.toNat) - (48 : Int32)).toInt64)) / (10 : Int64))
                · skip
                  refine own_st (fun _ k => XS.ifNo X0.here hx rfl (hb hby d2_87) rfl ((if0 _ _).trans (tlt ((lw_lt _ _).mpr c87_10)).2.1) k) ?_
                  show own_Go X0 (Q2 Z r0 p1 q2 q3 kA vs f h0 n0) 0 0 90 #[oR r0, oI p1, oJ q2, oS, oJ q3, oS, oI (own_ng f p1), oI (own_sta (own_ng f p1)), oJ sm, oS, oI ii, oI ((f ii.toInt.toNat) - (48 : Int32))] []
                  refine own_st (fun _ k => XS.iconst X0.here hx rfl (hb hby d2_90) k) ?_
                  show own_Go X0 (Q2 Z r0 p1 q2 q3 kA vs f h0 n0) 0 0 91 #[oR r0, oI p1, oJ q2, oS, oJ q3, oS, oI (own_ng f p1), oI (own_sta (own_ng f p1)), oJ sm, oS, oI ii, oI ((f ii.toInt.toNat) - (48 : Int32))] [(.int (0 : Int32))]
                  refine own_retN X0 hx Bd.returns (by simp) hlk e0 (hb hby d2_91) (by decide) (by decide) ?_
                  have hr : own_ii f p1 q2 q3 = 0 := by unfold own_ii; rw [if_neg c34_1, ← hres, own_sc3 c63_8 c70_9 c87_10]; rfl
                  exact ⟨by rw [hr]; rfl, N0, rfl⟩
                · skip
                  refine own_st (fun _ k => XS.ifYes X0.here hx rfl (pc0 := 87) (pc' := 92) rfl (hb hby d2_87) rfl ((if0 _ _).trans (flt (fun q => c87_10 ((lw_lt _ _).mp q))).2.1) (by decide) (by decide) k) ?_
                  show own_Go X0 (Q2 Z r0 p1 q2 q3 kA vs f h0 n0) 0 0 92 #[oR r0, oI p1, oJ q2, oS, oJ q3, oS, oI (own_ng f p1), oI (own_sta (own_ng f p1)), oJ sm, oS, oI ii, oI ((f ii.toInt.toNat) - (48 : Int32))] []
                  refine own_st (fun _ k => XS.lload X0.here hx rfl (hb hby d2_92) rfl k) ?_
                  show own_Go X0 (Q2 Z r0 p1 q2 q3 kA vs f h0 n0) 0 0 94 #[oR r0, oI p1, oJ q2, oS, oJ q3, oS, oI (own_ng f p1), oI (own_sta (own_ng f p1)), oJ sm, oS, oI ii, oI ((f ii.toInt.toNat) - (48 : Int32))] [(.long sm)]
                  refine own_st (fun t k => X0.ldc2Long hx hown (mvT hZ (hw _ (List.mem_of_getElem? (i := 32) rfl))) (g := (mkF m 94 #[oR r0, oI p1, oJ q2, oS, oJ q3, oS, oI (own_ng f p1), oI (own_sta (own_ng f p1)), oJ sm, oS, oI ii, oI ((f ii.toInt.toNat) - (48 : Int32))] [(.long sm)])) rfl (hb hby d2_94) t k) ?_
                  show own_Go X0 (Q2 Z r0 p1 q2 q3 kA vs f h0 n0) 0 0 97 #[oR r0, oI p1, oJ q2, oS, oJ q3, oS, oI (own_ng f p1), oI (own_sta (own_ng f p1)), oJ sm, oS, oI ii, oI ((f ii.toInt.toNat) - (48 : Int32))] [(.long (10 : Int64)), (.long sm)]
                  refine own_st (fun _ k => XS.lmul X0.here hx rfl (hb hby d2_97) rfl k) ?_
                  show own_Go X0 (Q2 Z r0 p1 q2 q3 kA vs f h0 n0) 0 0 98 #[oR r0, oI p1, oJ q2, oS, oJ q3, oS, oI (own_ng f p1), oI (own_sta (own_ng f p1)), oJ sm, oS, oI ii, oI ((f ii.toInt.toNat) - (48 : Int32))] [(.long (sm * (10 : Int64)))]
                  refine own_st (fun _ k => XS.iload X0.here hx rfl (hb hby d2_98) rfl k) ?_
                  show own_Go X0 (Q2 Z r0 p1 q2 q3 kA vs f h0 n0) 0 0 100 #[oR r0, oI p1, oJ q2, oS, oJ q3, oS, oI (own_ng f p1), oI (own_sta (own_ng f p1)), oJ sm, oS, oI ii, oI ((f ii.toInt.toNat) - (48 : Int32))] [(.int ((f ii.toInt.toNat) - (48 : Int32))), (.long (sm * (10 : Int64)))]
                  refine own_st (fun _ k => XS.i2l X0.here hx rfl (hb hby d2_100) rfl k) ?_
                  show own_Go X0 (Q2 Z r0 p1 q2 q3 kA vs f h0 n0) 0 0 101 #[oR r0, oI p1, oJ q2, oS, oJ q3, oS, oI (own_ng f p1), oI (own_sta (own_ng f p1)), oJ sm, oS, oI ii, oI ((f ii.toInt.toNat) - (48 : Int32))] [(.long (((f ii.toInt.toNat) - (48 : Int32)).toInt64)), (.long (sm * (10 : Int64)))]
                  refine own_st (fun _ k => XS.lsub X0.here hx rfl (hb hby d2_101) rfl k) ?_
                  show own_Go X0 (Q2 Z r0 p1 q2 q3 kA vs f h0 n0) 0 0 102 #[oR r0, oI p1, oJ q2, oS, oJ q3, oS, oI (own_ng f p1), oI (own_sta (own_ng f p1)), oJ sm, oS, oI ii, oI ((f ii.toInt.toNat) - (48 : Int32))] [(.long ((sm * (10 : Int64)) - (((f ii.toInt.toNat) - (48 : Int32)).toInt64)))]
                  refine own_st (fun _ k => XS.lstore X0.here hx rfl (hb hby d2_102) rfl (l' := #[oR r0, oI p1, oJ q2, oS, oJ q3, oS, oI (own_ng f p1), oI (own_sta (own_ng f p1)), oJ ((sm * (10 : Int64)) - (((f ii.toInt.toNat) - (48 : Int32)).toInt64)), oS, oI ii, oI ((f ii.toInt.toNat) - (48 : Int32))]) rfl k) ?_
                  show own_Go X0 (Q2 Z r0 p1 q2 q3 kA vs f h0 n0) 0 0 104 #[oR r0, oI p1, oJ q2, oS, oJ q3, oS, oI (own_ng f p1), oI (own_sta (own_ng f p1)), oJ ((sm * (10 : Int64)) - (((f ii.toInt.toNat) - (48 : Int32)).toInt64)), oS, oI ii, oI ((f ii.toInt.toNat) - (48 : Int32))] []
                  refine own_st (fun _ k => XS.iinc X0.here hx rfl (hb hby d2_104) rfl (l' := #[oR r0, oI p1, oJ q2, oS, oJ q3, oS, oI (own_ng f p1), oI (own_sta (own_ng f p1)), oJ ((sm * (10 : Int64)) - (((f ii.toInt.toNat) - (48 : Int32)).toInt64)), oS, oI (ii + (1 : Int32)), oI ((f ii.toInt.toNat) - (48 : Int32))]) rfl k) ?_
                  show own_Go X0 (Q2 Z r0 p1 q2 q3 kA vs f h0 n0) 0 0 107 #[oR r0, oI p1, oJ q2, oS, oJ q3, oS, oI (own_ng f p1), oI (own_sta (own_ng f p1)), oJ ((sm * (10 : Int64)) - (((f ii.toInt.toNat) - (48 : Int32)).toInt64)), oS, oI (ii + (1 : Int32)), oI ((f ii.toInt.toNat) - (48 : Int32))] []
                  refine own_st (fun _ k => XS.goto X0.here hx rfl (pc0 := 107) (pc' := 46) rfl (hb hby d2_107) (by decide) (by decide) k) ?_
                  show own_Go X0 (Q2 Z r0 p1 q2 q3 kA vs f h0 n0) 0 0 46 #[oR r0, oI p1, oJ q2, oS, oJ q3, oS, oI (own_ng f p1), oI (own_sta (own_ng f p1)), oJ ((sm * (10 : Int64)) - (((f ii.toInt.toNat) - (48 : Int32)).toInt64)), oS, oI (ii + (1 : Int32)), oI ((f ii.toInt.toNat) - (48 : Int32))] []
                  exact ih _ _ _ (Or.inr ⟨_, rfl, rfl⟩) (by rw [hX.2.2.2.2]; omega) (by rw [hX.2.2.2.2]; omega) (by rw [hX.2.2.2.2, show (ii.toInt + 1).toNat = ii.toInt.toNat + 1 by omega, ← hres]; exact (own_scs c63_8 c70_9 c87_10).symm)
        exact loop (p1.toInt - (own_sta (own_ng f p1)).toInt).toNat (own_sta (own_ng f p1)) (0 : Int64) .unset (Or.inl rfl) (by have := own_stab (f := f) HL.1; omega) (own_stab HL.1).1 rfl
    refine own_st (fun _ k => XS.iload X0.here hx rfl (hb hby d2_19) rfl k) ?_
    show own_Go X0 (Q2 Z r0 p1 q2 q3 kA vs f h0 n0) 0 0 21 #[oR r0, oI p1, oJ q2, oS, oJ q3, oS, oI (own_ng f p1), oU, oU, oU, oU, oU] [(.int (own_ng f p1))]
    by_cases c21_11 : (own_ng f p1) = (0 : Int32)
    · skip
      refine own_st (fun _ k => XS.ifYes X0.here hx rfl (pc0 := 21) (pc' := 28) rfl (hb hby d2_21) rfl ((if0 _ _).trans (teq c21_11).1) (by decide) (by decide) k) ?_
      show own_Go X0 (Q2 Z r0 p1 q2 q3 kA vs f h0 n0) 0 0 28 #[oR r0, oI p1, oJ q2, oS, oJ q3, oS, oI (own_ng f p1), oU, oU, oU, oU, oU] []
      refine own_st (fun _ k => XS.iconst X0.here hx rfl (hb hby d2_28) k) ?_
      show own_Go X0 (Q2 Z r0 p1 q2 q3 kA vs f h0 n0) 0 0 29 #[oR r0, oI p1, oJ q2, oS, oJ q3, oS, oI (own_ng f p1), oU, oU, oU, oU, oU] [(.int (0 : Int32))]
      exact J29 _ (by unfold own_sta; rw [if_pos c21_11])
    · skip
      refine own_st (fun _ k => XS.ifNo X0.here hx rfl (hb hby d2_21) rfl ((if0 _ _).trans (feq c21_11).1) k) ?_
      show own_Go X0 (Q2 Z r0 p1 q2 q3 kA vs f h0 n0) 0 0 24 #[oR r0, oI p1, oJ q2, oS, oJ q3, oS, oI (own_ng f p1), oU, oU, oU, oU, oU] []
      refine own_st (fun _ k => XS.iconst X0.here hx rfl (hb hby d2_24) k) ?_
      show own_Go X0 (Q2 Z r0 p1 q2 q3 kA vs f h0 n0) 0 0 25 #[oR r0, oI p1, oJ q2, oS, oJ q3, oS, oI (own_ng f p1), oU, oU, oU, oU, oU] [(.int (1 : Int32))]
      refine own_st (fun _ k => XS.goto X0.here hx rfl (pc0 := 25) (pc' := 29) rfl (hb hby d2_25) (by decide) (by decide) k) ?_
      show own_Go X0 (Q2 Z r0 p1 q2 q3 kA vs f h0 n0) 0 0 29 #[oR r0, oI p1, oJ q2, oS, oJ q3, oS, oI (own_ng f p1), oU, oU, oU, oU, oU] [(.int (1 : Int32))]
      exact J29 _ (by unfold own_sta; rw [if_neg c21_11])
  refine own_st (fun _ k => XS.iloadN X0.here hx rfl (hb hby d2_0) rfl k) ?_
  show own_Go X0 (Q2 Z r0 p1 q2 q3 kA vs f h0 n0) 0 0 1 #[oR r0, oI p1, oJ q2, oS, oJ q3, oS, oU, oU, oU, oU, oU, oU] [(.int p1)]
  by_cases c1_12 : (0 : Int32) < p1
  · skip
    refine own_st (fun _ k => XS.ifNo X0.here hx rfl (hb hby d2_1) rfl ((if0 _ _).trans (tlt c1_12).2.2.2) k) ?_
    show own_Go X0 (Q2 Z r0 p1 q2 q3 kA vs f h0 n0) 0 0 4 #[oR r0, oI p1, oJ q2, oS, oJ q3, oS, oU, oU, oU, oU, oU, oU] []
    refine own_st (fun _ k => XS.aloadN X0.here hx rfl (hb hby d2_4) rfl rfl k) ?_
    show own_Go X0 (Q2 Z r0 p1 q2 q3 kA vs f h0 n0) 0 0 5 #[oR r0, oI p1, oJ q2, oS, oJ q3, oS, oU, oU, oU, oU, oU, oU] [(.ref r0)]
    refine own_st (fun _ k => XS.iconst X0.here hx rfl (hb hby d2_5) k) ?_
    show own_Go X0 (Q2 Z r0 p1 q2 q3 kA vs f h0 n0) 0 0 6 #[oR r0, oI p1, oJ q2, oS, oJ q3, oS, oU, oU, oU, oU, oU, oU] [(.int (0 : Int32)), (.ref r0)]
    refine own_st (fun _ k => own_ldB X0 hx hZ e0 PV (j := (0 : Int32)) ⟨by decide, by decide⟩ (v := (.int (f 0))) (hf 0 (by decide)) (g := (mkF m 6 #[oR r0, oI p1, oJ q2, oS, oJ q3, oS, oU, oU, oU, oU, oU, oU] [(.int (0 : Int32)), (.ref r0)])) rfl rfl (hb hby d2_6) _ k) ?_
    show own_Go X0 (Q2 Z r0 p1 q2 q3 kA vs f h0 n0) 0 0 7 #[oR r0, oI p1, oJ q2, oS, oJ q3, oS, oU, oU, oU, oU, oU, oU] [(.int (f 0))]
    refine own_st (fun _ k => XS.bipush X0.here hx rfl (hb hby d2_7) k) ?_
    show own_Go X0 (Q2 Z r0 p1 q2 q3 kA vs f h0 n0) 0 0 9 #[oR r0, oI p1, oJ q2, oS, oJ q3, oS, oU, oU, oU, oU, oU, oU] [(.int (45 : Int32)), (.int (f 0))]
    by_cases c9_13 : (f 0) = (45 : Int32)
    · skip
      refine own_st (fun _ k => XS.icmpNo X0.here hx rfl (hb hby d2_9) rfl (teq c9_13).2 k) ?_
      show own_Go X0 (Q2 Z r0 p1 q2 q3 kA vs f h0 n0) 0 0 12 #[oR r0, oI p1, oJ q2, oS, oJ q3, oS, oU, oU, oU, oU, oU, oU] []
      refine own_st (fun _ k => XS.iconst X0.here hx rfl (hb hby d2_12) k) ?_
      show own_Go X0 (Q2 Z r0 p1 q2 q3 kA vs f h0 n0) 0 0 13 #[oR r0, oI p1, oJ q2, oS, oJ q3, oS, oU, oU, oU, oU, oU, oU] [(.int (1 : Int32))]
      refine own_st (fun _ k => XS.goto X0.here hx rfl (pc0 := 13) (pc' := 17) rfl (hb hby d2_13) (by decide) (by decide) k) ?_
      show own_Go X0 (Q2 Z r0 p1 q2 q3 kA vs f h0 n0) 0 0 17 #[oR r0, oI p1, oJ q2, oS, oJ q3, oS, oU, oU, oU, oU, oU, oU] [(.int (1 : Int32))]
      exact J17 _ (by unfold own_ng; rw [if_pos c1_12, if_pos c9_13])
    · skip
      refine own_st (fun _ k => XS.icmpYes X0.here hx rfl (pc0 := 9) (pc' := 16) rfl (hb hby d2_9) rfl (feq c9_13).2 (by decide) (by decide) k) ?_
      show own_Go X0 (Q2 Z r0 p1 q2 q3 kA vs f h0 n0) 0 0 16 #[oR r0, oI p1, oJ q2, oS, oJ q3, oS, oU, oU, oU, oU, oU, oU] []
      refine own_st (fun _ k => XS.iconst X0.here hx rfl (hb hby d2_16) k) ?_
      show own_Go X0 (Q2 Z r0 p1 q2 q3 kA vs f h0 n0) 0 0 17 #[oR r0, oI p1, oJ q2, oS, oJ q3, oS, oU, oU, oU, oU, oU, oU] [(.int (0 : Int32))]
      exact J17 _ (by unfold own_ng; rw [if_pos c1_12, if_neg c9_13])
  · skip
    refine own_st (fun _ k => XS.ifYes X0.here hx rfl (pc0 := 1) (pc' := 16) rfl (hb hby d2_1) rfl ((if0 _ _).trans (flt c1_12).2.2.2) (by decide) (by decide) k) ?_
    show own_Go X0 (Q2 Z r0 p1 q2 q3 kA vs f h0 n0) 0 0 16 #[oR r0, oI p1, oJ q2, oS, oJ q3, oS, oU, oU, oU, oU, oU, oU] []
    refine own_st (fun _ k => XS.iconst X0.here hx rfl (hb hby d2_16) k) ?_
    show own_Go X0 (Q2 Z r0 p1 q2 q3 kA vs f h0 n0) 0 0 17 #[oR r0, oI p1, oJ q2, oS, oJ q3, oS, oU, oU, oU, oU, oU, oU] [(.int (0 : Int32))]
    exact J17 _ (by unfold own_ng; rw [if_neg c1_12])
theorem pn_0 : plainName "com/example/wide_berth/wideberth/postgres/LiteralsIsIntegerPinLaw" = true := by first | (simp [plainName, overriddenIn]; done) | decide +kernel
theorem pd_0_0 : parseMethodDescriptor "([BIIIJ[J)V" = some ⟨[(.array .byte), .int, .int, .int, .long, (.array .long)], none⟩ := by decide +kernel
theorem pd_0_1 : parseMethodDescriptor "([BIJJ)Z" = some ⟨[(.array .byte), .int, .long, .long], some .boolean⟩ := by decide +kernel
theorem ef_0 (m : MethodId) (q0 : Int64) (q1 : Int64) (q2 : Int64) (p3 : Int32) (p4 : Int32) (p5 : Int32) : entryFrame m #[(.long q0), (.long q1), (.long q2), (.int p3), (.int p4), (.int p5)] maxLocals = mkF m 0 #[oJ q0, oS, oJ q1, oS, oJ q2, oS, oI p3, oI p4, oI p5, oU, oU, oU, oU, oU, oU, oU, oU, oU, oU, oU, oU, oU, oU, oU, oU, oU, oU, oU, oU, oU, oU, oU, oU, oU, oU, oU, oU, oU, oU, oU] [] := by first | (simp [entryFrame, mkF, argsToLocals, Value.category, maxLocals]; done) | rfl
def Q0 (Z : State) (q0 : Int64) (q1 : Int64) (q2 : Int64) (p3 : Int32) (p4 : Int32) (p5 : Int32)  (h0 : Heap) (n0 : Nat) (v : Option Value) (h : Heap) (L : List Loc) : Prop := v = some (.int 1) ∧ Fr n0 L
set_option maxRecDepth 65536 in
set_option maxHeartbeats 40000000 in
theorem rm0 (l : Launch) (Z : State) (a0 : Array Value) (hw : ∀ d ∈ tables_1, d.before a0 Z = true) (ws : List Jvm.Cond) (q0 : Int64) (q1 : Int64) (q2 : Int64) (p3 : Int32) (p4 : Int32) (p5 : Int32)  (h0 : Heap) (n0 : Nat) (Z0 : n0 ≤ h0.size)  :
    MetFree l x (head1 (Jvm.Cond.code x code maxLocals ret :: ws) room_1) (fun a U => a = #[(.long q0), (.long q1), (.long q2), (.int p3), (.int p4), (.int p5)] ∧ Z.Warmed39 U.vm ∧ U.heap = h0) (fun _ _ _ _ _ => True) (fun _ U o U' => ∃ v L, o = .returned v ∧ Q0 Z q0 q1 q2 p3 p4 p5 h0 n0 v U'.heap L ∧ FrameEnd U o U' L 2 41) := by
  refine MetFree.of_bodySF (plainFor_of_name pn_0) hisR ?_
  intro p e s m args below meth c s₁ Bd hml0 hP hK
  obtain ⟨rfl, hZ, hh⟩ := hP
  have hx := Bd.exec
  have hby := Bd.bytes
  have hml : c.maxLocals = 40 := hml0
  have hown : s.vm.findClass "com/example/wide_berth/wideberth/postgres/LiteralsIsIntegerPinLaw" = some m.cls := findClass_of_methodNamed Bd.named
  have hnm := (name_of_methodNamed Bd.named Bd.method).1
  have hlk : meth.locks = false := Bd.notSynchronized
  have X0 : Stand p l e room_1 s m #[(.long q0), (.long q1), (.long q2), (.int p3), (.int p4), (.int p5)] below meth c s₁ [] 0 0 := Stand.of_body Bd
  have e0 : s₁.heap = h0 := by rw [← hh, Bd.state]; rfl
  have N0 := Fr.nil n0
  refine own_cast (Q := Q0 Z q0 q1 q2 p3 p4 p5 h0 n0) (kc := 2) (ks := 41) (ef_0 m q0 q1 q2 p3 p4 p5) ?_
  have J12 : ∀ (mn : Int64) (hmn : mn.toInt ≤ 0), own_Go X0 (Q0 Z q0 q1 q2 p3 p4 p5 h0 n0) 2 41 12 #[oJ q0, oS, oJ q1, oS, oJ q2, oS, oI p3, oI p4, oI p5, oU, oU, oU, oU, oU, oU, oU, oU, oU, oU, oU, oU, oU, oU, oU, oU, oU, oU, oU, oU, oU, oU, oU, oU, oU, oU, oU, oU, oU, oU, oU] [(.long mn)] := by
    intro mn hmn
    refine own_st (fun _ k => XS.lstore X0.here hx rfl (hb hby at_12) rfl (l' := #[oJ q0, oS, oJ q1, oS, oJ q2, oS, oI p3, oI p4, oI p5, oJ mn, oS, oU, oU, oU, oU, oU, oU, oU, oU, oU, oU, oU, oU, oU, oU, oU, oU, oU, oU, oU, oU, oU, oU, oU, oU, oU, oU, oU, oU, oU]) rfl k) ?_
    show own_Go X0 (Q0 Z q0 q1 q2 p3 p4 p5 h0 n0) 2 41 14 #[oJ q0, oS, oJ q1, oS, oJ q2, oS, oI p3, oI p4, oI p5, oJ mn, oS, oU, oU, oU, oU, oU, oU, oU, oU, oU, oU, oU, oU, oU, oU, oU, oU, oU, oU, oU, oU, oU, oU, oU, oU, oU, oU, oU, oU, oU] []
    have J32 : ∀ (mx : Int64) (hmx : 0 ≤ mx.toInt), own_Go X0 (Q0 Z q0 q1 q2 p3 p4 p5 h0 n0) 2 41 32 #[oJ q0, oS, oJ q1, oS, oJ q2, oS, oI p3, oI p4, oI p5, oJ mn, oS, oU, oU, oU, oU, oU, oU, oU, oU, oU, oU, oU, oU, oU, oU, oU, oU, oU, oU, oU, oU, oU, oU, oU, oU, oU, oU, oU, oU, oU] [(.long mx)] := by
      intro mx hmx
      refine own_st (fun _ k => XS.lstore X0.here hx rfl (hb hby at_32) rfl (l' := #[oJ q0, oS, oJ q1, oS, oJ q2, oS, oI p3, oI p4, oI p5, oJ mn, oS, oJ mx, oS, oU, oU, oU, oU, oU, oU, oU, oU, oU, oU, oU, oU, oU, oU, oU, oU, oU, oU, oU, oU, oU, oU, oU, oU, oU, oU, oU]) rfl k) ?_
      show own_Go X0 (Q0 Z q0 q1 q2 p3 p4 p5 h0 n0) 2 41 34 #[oJ q0, oS, oJ q1, oS, oJ q2, oS, oI p3, oI p4, oI p5, oJ mn, oS, oJ mx, oS, oU, oU, oU, oU, oU, oU, oU, oU, oU, oU, oU, oU, oU, oU, oU, oU, oU, oU, oU, oU, oU, oU, oU, oU, oU, oU, oU] []
      have J46 : ∀ (ng : Int32) (hng : ng = 0 ∨ ng = 1), own_Go X0 (Q0 Z q0 q1 q2 p3 p4 p5 h0 n0) 2 41 46 #[oJ q0, oS, oJ q1, oS, oJ q2, oS, oI p3, oI p4, oI p5, oJ mn, oS, oJ mx, oS, oU, oU, oU, oU, oU, oU, oU, oU, oU, oU, oU, oU, oU, oU, oU, oU, oU, oU, oU, oU, oU, oU, oU, oU, oU, oU, oU] [(.int ng)] := by
        intro ng hng
        refine own_st (fun _ k => XS.istore X0.here hx rfl (hb hby at_46) rfl (l' := #[oJ q0, oS, oJ q1, oS, oJ q2, oS, oI p3, oI p4, oI p5, oJ mn, oS, oJ mx, oS, oI ng, oU, oU, oU, oU, oU, oU, oU, oU, oU, oU, oU, oU, oU, oU, oU, oU, oU, oU, oU, oU, oU, oU, oU, oU, oU, oU]) rfl k) ?_
        show own_Go X0 (Q0 Z q0 q1 q2 p3 p4 p5 h0 n0) 2 41 48 #[oJ q0, oS, oJ q1, oS, oJ q2, oS, oI p3, oI p4, oI p5, oJ mn, oS, oJ mx, oS, oI ng, oU, oU, oU, oU, oU, oU, oU, oU, oU, oU, oU, oU, oU, oU, oU, oU, oU, oU, oU, oU, oU, oU, oU, oU, oU, oU] []
        have J60 : ∀ (he : Int32) (hhe : he = 0 ∨ he = 1), own_Go X0 (Q0 Z q0 q1 q2 p3 p4 p5 h0 n0) 2 41 60 #[oJ q0, oS, oJ q1, oS, oJ q2, oS, oI p3, oI p4, oI p5, oJ mn, oS, oJ mx, oS, oI ng, oU, oU, oU, oU, oU, oU, oU, oU, oU, oU, oU, oU, oU, oU, oU, oU, oU, oU, oU, oU, oU, oU, oU, oU, oU, oU] [(.int he)] := by
          intro he hhe
          refine own_st (fun _ k => XS.istore X0.here hx rfl (hb hby at_60) rfl (l' := #[oJ q0, oS, oJ q1, oS, oJ q2, oS, oI p3, oI p4, oI p5, oJ mn, oS, oJ mx, oS, oI ng, oI he, oU, oU, oU, oU, oU, oU, oU, oU, oU, oU, oU, oU, oU, oU, oU, oU, oU, oU, oU, oU, oU, oU, oU, oU, oU]) rfl k) ?_
          show own_Go X0 (Q0 Z q0 q1 q2 p3 p4 p5 h0 n0) 2 41 62 #[oJ q0, oS, oJ q1, oS, oJ q2, oS, oI p3, oI p4, oI p5, oJ mn, oS, oJ mx, oS, oI ng, oI he, oU, oU, oU, oU, oU, oU, oU, oU, oU, oU, oU, oU, oU, oU, oU, oU, oU, oU, oU, oU, oU, oU, oU, oU, oU] []
          refine own_st (fun _ k => XS.iload X0.here hx rfl (hb hby at_62) rfl k) ?_
          show own_Go X0 (Q0 Z q0 q1 q2 p3 p4 p5 h0 n0) 2 41 64 #[oJ q0, oS, oJ q1, oS, oJ q2, oS, oI p3, oI p4, oI p5, oJ mn, oS, oJ mx, oS, oI ng, oI he, oU, oU, oU, oU, oU, oU, oU, oU, oU, oU, oU, oU, oU, oU, oU, oU, oU, oU, oU, oU, oU, oU, oU, oU, oU] [(.int p3)]
          refine own_st (fun _ k => XS.iconst X0.here hx rfl (hb hby at_64) k) ?_
          show own_Go X0 (Q0 Z q0 q1 q2 p3 p4 p5 h0 n0) 2 41 65 #[oJ q0, oS, oJ q1, oS, oJ q2, oS, oI p3, oI p4, oI p5, oJ mn, oS, oJ mx, oS, oI ng, oI he, oU, oU, oU, oU, oU, oU, oU, oU, oU, oU, oU, oU, oU, oU, oU, oU, oU, oU, oU, oU, oU, oU, oU, oU, oU] [(.int (2 : Int32)), (.int p3)]
          refine own_st (fun _ k => XS.iushr X0.here hx rfl (hb hby at_65) rfl k) ?_
          show own_Go X0 (Q0 Z q0 q1 q2 p3 p4 p5 h0 n0) 2 41 66 #[oJ q0, oS, oJ q1, oS, oJ q2, oS, oI p3, oI p4, oI p5, oJ mn, oS, oJ mx, oS, oI ng, oI he, oU, oU, oU, oU, oU, oU, oU, oU, oU, oU, oU, oU, oU, oU, oU, oU, oU, oU, oU, oU, oU, oU, oU, oU, oU] [(.int ((p3.toUInt32 >>> ((2 : Int32) &&& 31).toUInt32).toInt32))]
          refine own_st (fun _ k => XS.bipush X0.here hx rfl (hb hby at_66) k) ?_
          show own_Go X0 (Q0 Z q0 q1 q2 p3 p4 p5 h0 n0) 2 41 68 #[oJ q0, oS, oJ q1, oS, oJ q2, oS, oI p3, oI p4, oI p5, oJ mn, oS, oJ mx, oS, oI ng, oI he, oU, oU, oU, oU, oU, oU, oU, oU, oU, oU, oU, oU, oU, oU, oU, oU, oU, oU, oU, oU, oU, oU, oU, oU, oU] [(.int (15 : Int32)), (.int ((p3.toUInt32 >>> ((2 : Int32) &&& 31).toUInt32).toInt32))]
          refine own_st (fun _ k => XS.iand X0.here hx rfl (hb hby at_68) rfl k) ?_
          show own_Go X0 (Q0 Z q0 q1 q2 p3 p4 p5 h0 n0) 2 41 69 #[oJ q0, oS, oJ q1, oS, oJ q2, oS, oI p3, oI p4, oI p5, oJ mn, oS, oJ mx, oS, oI ng, oI he, oU, oU, oU, oU, oU, oU, oU, oU, oU, oU, oU, oU, oU, oU, oU, oU, oU, oU, oU, oU, oU, oU, oU, oU, oU] [(.int (((p3.toUInt32 >>> ((2 : Int32) &&& 31).toUInt32).toInt32) &&& (15 : Int32)))]
          refine own_st (fun _ k => XS.bipush X0.here hx rfl (hb hby at_69) k) ?_
          show own_Go X0 (Q0 Z q0 q1 q2 p3 p4 p5 h0 n0) 2 41 71 #[oJ q0, oS, oJ q1, oS, oJ q2, oS, oI p3, oI p4, oI p5, oJ mn, oS, oJ mx, oS, oI ng, oI he, oU, oU, oU, oU, oU, oU, oU, oU, oU, oU, oU, oU, oU, oU, oU, oU, oU, oU, oU, oU, oU, oU, oU, oU, oU] [(.int (10 : Int32)), (.int (((p3.toUInt32 >>> ((2 : Int32) &&& 31).toUInt32).toInt32) &&& (15 : Int32)))]
          refine own_st (fun _ k => iremM X0 hx rfl (hb hby at_71) rfl (by decide) k) ?_
          show own_Go X0 (Q0 Z q0 q1 q2 p3 p4 p5 h0 n0) 2 41 72 #[oJ q0, oS, oJ q1, oS, oJ q2, oS, oI p3, oI p4, oI p5, oJ mn, oS, oJ mx, oS, oI ng, oI he, oU, oU, oU, oU, oU, oU, oU, oU, oU, oU, oU, oU, oU, oU, oU, oU, oU, oU, oU, oU, oU, oU, oU, oU, oU] [(.int ((((p3.toUInt32 >>> ((2 : Int32) &&& 31).toUInt32).toInt32) &&& (15 : Int32)) % (10 : Int32)))]
          refine own_st (fun _ k => XS.istore X0.here hx rfl (hb hby at_72) rfl (l' := #[oJ q0, oS, oJ q1, oS, oJ q2, oS, oI p3, oI p4, oI p5, oJ mn, oS, oJ mx, oS, oI ng, oI he, oI ((((p3.toUInt32 >>> ((2 : Int32) &&& 31).toUInt32).toInt32) &&& (15 : Int32)) % (10 : Int32)), oU, oU, oU, oU, oU, oU, oU, oU, oU, oU, oU, oU, oU, oU, oU, oU, oU, oU, oU, oU, oU, oU, oU, oU]) rfl k) ?_
          show own_Go X0 (Q0 Z q0 q1 q2 p3 p4 p5 h0 n0) 2 41 74 #[oJ q0, oS, oJ q1, oS, oJ q2, oS, oI p3, oI p4, oI p5, oJ mn, oS, oJ mx, oS, oI ng, oI he, oI ((((p3.toUInt32 >>> ((2 : Int32) &&& 31).toUInt32).toInt32) &&& (15 : Int32)) % (10 : Int32)), oU, oU, oU, oU, oU, oU, oU, oU, oU, oU, oU, oU, oU, oU, oU, oU, oU, oU, oU, oU, oU, oU, oU, oU] []
          generalize hee : ((((p3.toUInt32 >>> ((2 : Int32) &&& 31).toUInt32).toInt32) &&& (15 : Int32)) % (10 : Int32)) = ee
          show own_Go X0 (Q0 Z q0 q1 q2 p3 p4 p5 h0 n0) 2 41 74 #[oJ q0, oS, oJ q1, oS, oJ q2, oS, oI p3, oI p4, oI p5, oJ mn, oS, oJ mx, oS, oI ng, oI he, oI ee, oU, oU, oU, oU, oU, oU, oU, oU, oU, oU, oU, oU, oU, oU, oU, oU, oU, oU, oU, oU, oU, oU, oU, oU] []
          have heB := own_e9 hee
          refine own_st (fun _ k => XS.iload X0.here hx rfl (hb hby at_74) rfl k) ?_
          show own_Go X0 (Q0 Z q0 q1 q2 p3 p4 p5 h0 n0) 2 41 76 #[oJ q0, oS, oJ q1, oS, oJ q2, oS, oI p3, oI p4, oI p5, oJ mn, oS, oJ mx, oS, oI ng, oI he, oI ee, oU, oU, oU, oU, oU, oU, oU, oU, oU, oU, oU, oU, oU, oU, oU, oU, oU, oU, oU, oU, oU, oU, oU, oU] [(.int p3)]
          refine own_st (fun _ k => XS.bipush X0.here hx rfl (hb hby at_76) k) ?_
          show own_Go X0 (Q0 Z q0 q1 q2 p3 p4 p5 h0 n0) 2 41 78 #[oJ q0, oS, oJ q1, oS, oJ q2, oS, oI p3, oI p4, oI p5, oJ mn, oS, oJ mx, oS, oI ng, oI he, oI ee, oU, oU, oU, oU, oU, oU, oU, oU, oU, oU, oU, oU, oU, oU, oU, oU, oU, oU, oU, oU, oU, oU, oU, oU] [(.int (6 : Int32)), (.int p3)]
          refine own_st (fun _ k => XS.iushr X0.here hx rfl (hb hby at_78) rfl k) ?_
          show own_Go X0 (Q0 Z q0 q1 q2 p3 p4 p5 h0 n0) 2 41 79 #[oJ q0, oS, oJ q1, oS, oJ q2, oS, oI p3, oI p4, oI p5, oJ mn, oS, oJ mx, oS, oI ng, oI he, oI ee, oU, oU, oU, oU, oU, oU, oU, oU, oU, oU, oU, oU, oU, oU, oU, oU, oU, oU, oU, oU, oU, oU, oU, oU] [(.int ((p3.toUInt32 >>> ((6 : Int32) &&& 31).toUInt32).toInt32))]
          refine own_st (fun _ k => XS.bipush X0.here hx rfl (hb hby at_79) k) ?_
          show own_Go X0 (Q0 Z q0 q1 q2 p3 p4 p5 h0 n0) 2 41 81 #[oJ q0, oS, oJ q1, oS, oJ q2, oS, oI p3, oI p4, oI p5, oJ mn, oS, oJ mx, oS, oI ng, oI he, oI ee, oU, oU, oU, oU, oU, oU, oU, oU, oU, oU, oU, oU, oU, oU, oU, oU, oU, oU, oU, oU, oU, oU, oU, oU] [(.int (31 : Int32)), (.int ((p3.toUInt32 >>> ((6 : Int32) &&& 31).toUInt32).toInt32))]
          refine own_st (fun _ k => XS.iand X0.here hx rfl (hb hby at_81) rfl k) ?_
          show own_Go X0 (Q0 Z q0 q1 q2 p3 p4 p5 h0 n0) 2 41 82 #[oJ q0, oS, oJ q1, oS, oJ q2, oS, oI p3, oI p4, oI p5, oJ mn, oS, oJ mx, oS, oI ng, oI he, oI ee, oU, oU, oU, oU, oU, oU, oU, oU, oU, oU, oU, oU, oU, oU, oU, oU, oU, oU, oU, oU, oU, oU, oU, oU] [(.int (((p3.toUInt32 >>> ((6 : Int32) &&& 31).toUInt32).toInt32) &&& (31 : Int32)))]
          refine own_st (fun _ k => XS.bipush X0.here hx rfl (hb hby at_82) k) ?_
          show own_Go X0 (Q0 Z q0 q1 q2 p3 p4 p5 h0 n0) 2 41 84 #[oJ q0, oS, oJ q1, oS, oJ q2, oS, oI p3, oI p4, oI p5, oJ mn, oS, oJ mx, oS, oI ng, oI he, oI ee, oU, oU, oU, oU, oU, oU, oU, oU, oU, oU, oU, oU, oU, oU, oU, oU, oU, oU, oU, oU, oU, oU, oU, oU] [(.int (20 : Int32)), (.int (((p3.toUInt32 >>> ((6 : Int32) &&& 31).toUInt32).toInt32) &&& (31 : Int32)))]
          refine own_st (fun _ k => iremM X0 hx rfl (hb hby at_84) rfl (by decide) k) ?_
          show own_Go X0 (Q0 Z q0 q1 q2 p3 p4 p5 h0 n0) 2 41 85 #[oJ q0, oS, oJ q1, oS, oJ q2, oS, oI p3, oI p4, oI p5, oJ mn, oS, oJ mx, oS, oI ng, oI he, oI ee, oU, oU, oU, oU, oU, oU, oU, oU, oU, oU, oU, oU, oU, oU, oU, oU, oU, oU, oU, oU, oU, oU, oU, oU] [(.int ((((p3.toUInt32 >>> ((6 : Int32) &&& 31).toUInt32).toInt32) &&& (31 : Int32)) % (20 : Int32)))]
          refine own_st (fun _ k => XS.istore X0.here hx rfl (hb hby at_85) rfl (l' := #[oJ q0, oS, oJ q1, oS, oJ q2, oS, oI p3, oI p4, oI p5, oJ mn, oS, oJ mx, oS, oI ng, oI he, oI ee, oI ((((p3.toUInt32 >>> ((6 : Int32) &&& 31).toUInt32).toInt32) &&& (31 : Int32)) % (20 : Int32)), oU, oU, oU, oU, oU, oU, oU, oU, oU, oU, oU, oU, oU, oU, oU, oU, oU, oU, oU, oU, oU, oU, oU]) rfl k) ?_
          show own_Go X0 (Q0 Z q0 q1 q2 p3 p4 p5 h0 n0) 2 41 87 #[oJ q0, oS, oJ q1, oS, oJ q2, oS, oI p3, oI p4, oI p5, oJ mn, oS, oJ mx, oS, oI ng, oI he, oI ee, oI ((((p3.toUInt32 >>> ((6 : Int32) &&& 31).toUInt32).toInt32) &&& (31 : Int32)) % (20 : Int32)), oU, oU, oU, oU, oU, oU, oU, oU, oU, oU, oU, oU, oU, oU, oU, oU, oU, oU, oU, oU, oU, oU, oU] []
          generalize hmm : ((((p3.toUInt32 >>> ((6 : Int32) &&& 31).toUInt32).toInt32) &&& (31 : Int32)) % (20 : Int32)) = mm
          show own_Go X0 (Q0 Z q0 q1 q2 p3 p4 p5 h0 n0) 2 41 87 #[oJ q0, oS, oJ q1, oS, oJ q2, oS, oI p3, oI p4, oI p5, oJ mn, oS, oJ mx, oS, oI ng, oI he, oI ee, oI mm, oU, oU, oU, oU, oU, oU, oU, oU, oU, oU, oU, oU, oU, oU, oU, oU, oU, oU, oU, oU, oU, oU, oU] []
          have hmB := own_m19 hmm
          have J101 : ∀ (cr : Int32) (hcr : cr = 0 ∨ cr = 1), own_Go X0 (Q0 Z q0 q1 q2 p3 p4 p5 h0 n0) 2 41 101 #[oJ q0, oS, oJ q1, oS, oJ q2, oS, oI p3, oI p4, oI p5, oJ mn, oS, oJ mx, oS, oI ng, oI he, oI ee, oI mm, oU, oU, oU, oU, oU, oU, oU, oU, oU, oU, oU, oU, oU, oU, oU, oU, oU, oU, oU, oU, oU, oU, oU] [(.int cr)] := by
            intro cr hcr
            refine own_st (fun _ k => XS.istore X0.here hx rfl (hb hby at_101) rfl (l' := #[oJ q0, oS, oJ q1, oS, oJ q2, oS, oI p3, oI p4, oI p5, oJ mn, oS, oJ mx, oS, oI ng, oI he, oI ee, oI mm, oI cr, oU, oU, oU, oU, oU, oU, oU, oU, oU, oU, oU, oU, oU, oU, oU, oU, oU, oU, oU, oU, oU, oU]) rfl k) ?_
            show own_Go X0 (Q0 Z q0 q1 q2 p3 p4 p5 h0 n0) 2 41 103 #[oJ q0, oS, oJ q1, oS, oJ q2, oS, oI p3, oI p4, oI p5, oJ mn, oS, oJ mx, oS, oI ng, oI he, oI ee, oI mm, oI cr, oU, oU, oU, oU, oU, oU, oU, oU, oU, oU, oU, oU, oU, oU, oU, oU, oU, oU, oU, oU, oU, oU] []
            refine own_st (fun _ k => XS.iload X0.here hx rfl (hb hby at_103) rfl k) ?_
            show own_Go X0 (Q0 Z q0 q1 q2 p3 p4 p5 h0 n0) 2 41 105 #[oJ q0, oS, oJ q1, oS, oJ q2, oS, oI p3, oI p4, oI p5, oJ mn, oS, oJ mx, oS, oI ng, oI he, oI ee, oI mm, oI cr, oU, oU, oU, oU, oU, oU, oU, oU, oU, oU, oU, oU, oU, oU, oU, oU, oU, oU, oU, oU, oU, oU] [(.int p4)]
            refine own_st (fun _ k => XS.i2b X0.here hx rfl (hb hby at_105) rfl k) ?_
            show own_Go X0 (Q0 Z q0 q1 q2 p3 p4 p5 h0 n0) 2 41 106 #[oJ q0, oS, oJ q1, oS, oJ q2, oS, oI p3, oI p4, oI p5, oJ mn, oS, oJ mx, oS, oI ng, oI he, oI ee, oI mm, oI cr, oU, oU, oU, oU, oU, oU, oU, oU, oU, oU, oU, oU, oU, oU, oU, oU, oU, oU, oU, oU, oU, oU] [(.int (p4.toInt8.toInt32))]
            refine own_st (fun _ k => XS.istore X0.here hx rfl (hb hby at_106) rfl (l' := #[oJ q0, oS, oJ q1, oS, oJ q2, oS, oI p3, oI p4, oI p5, oJ mn, oS, oJ mx, oS, oI ng, oI he, oI ee, oI mm, oI cr, oI (p4.toInt8.toInt32), oU, oU, oU, oU, oU, oU, oU, oU, oU, oU, oU, oU, oU, oU, oU, oU, oU, oU, oU, oU, oU]) rfl k) ?_
            show own_Go X0 (Q0 Z q0 q1 q2 p3 p4 p5 h0 n0) 2 41 108 #[oJ q0, oS, oJ q1, oS, oJ q2, oS, oI p3, oI p4, oI p5, oJ mn, oS, oJ mx, oS, oI ng, oI he, oI ee, oI mm, oI cr, oI (p4.toInt8.toInt32), oU, oU, oU, oU, oU, oU, oU, oU, oU, oU, oU, oU, oU, oU, oU, oU, oU, oU, oU, oU, oU] []
            generalize hcc : (p4.toInt8.toInt32) = cc
            show own_Go X0 (Q0 Z q0 q1 q2 p3 p4 p5 h0 n0) 2 41 108 #[oJ q0, oS, oJ q1, oS, oJ q2, oS, oI p3, oI p4, oI p5, oJ mn, oS, oJ mx, oS, oI ng, oI he, oI ee, oI mm, oI cr, oI cc, oU, oU, oU, oU, oU, oU, oU, oU, oU, oU, oU, oU, oU, oU, oU, oU, oU, oU, oU, oU, oU] []
            refine own_st (fun _ k => XS.bipush X0.here hx rfl (hb hby at_108) k) ?_
            show own_Go X0 (Q0 Z q0 q1 q2 p3 p4 p5 h0 n0) 2 41 110 #[oJ q0, oS, oJ q1, oS, oJ q2, oS, oI p3, oI p4, oI p5, oJ mn, oS, oJ mx, oS, oI ng, oI he, oI ee, oI mm, oI cr, oI cc, oU, oU, oU, oU, oU, oU, oU, oU, oU, oU, oU, oU, oU, oU, oU, oU, oU, oU, oU, oU, oU] [(.int (19 : Int32))]
            obtain ⟨T1, h1, k1, X1, e1, E1, A1, st1⟩ := newP X0 hx hZ (hw _ (List.mem_of_getElem? (i := 1) rfl)) e0 (g := (mkF m 110 #[oJ q0, oS, oJ q1, oS, oJ q2, oS, oI p3, oI p4, oI p5, oJ mn, oS, oJ mx, oS, oI ng, oI he, oI ee, oI mm, oI cr, oI cc, oU, oU, oU, oU, oU, oU, oU, oU, oU, oU, oU, oU, oU, oU, oU, oU, oU, oU, oU, oU, oU] [(.int (19 : Int32))])) rfl (hb hby at_110) rfl (by decide) (cap := 19) (by decide) (by decide) (by decide) (by decide)
            obtain ⟨b1, g1⟩ : ∃ z, z = h0.size := ⟨_, rfl⟩
            rw [← g1] at A1 st1
            refine own_st st1 ?_
            have G_2 := Nat.le_trans Z0 (Nat.le_of_eq g1.symm)
            have Z_3 := Nat.le_trans Z0 E1.1
            have V1 : Arv Z h1 b1 k1 .long (19 : Int32) [(.long (0 : Int64)), (.long (0 : Int64)), (.long (0 : Int64)), (.long (0 : Int64)), (.long (0 : Int64)), (.long (0 : Int64)), (.long (0 : Int64)), (.long (0 : Int64)), (.long (0 : Int64)), (.long (0 : Int64)), (.long (0 : Int64)), (.long (0 : Int64)), (.long (0 : Int64)), (.long (0 : Int64)), (.long (0 : Int64)), (.long (0 : Int64)), (.long (0 : Int64)), (.long (0 : Int64)), (.long (0 : Int64))] (.long (0 : Int64)) := (Arv.new A1 (by decide)).pad (pad_rep [] (.long (0 : Int64)) 19)
            show own_Go X1 (Q0 Z q0 q1 q2 p3 p4 p5 h0 n0) 2 41 112 #[oJ q0, oS, oJ q1, oS, oJ q2, oS, oI p3, oI p4, oI p5, oJ mn, oS, oJ mx, oS, oI ng, oI he, oI ee, oI mm, oI cr, oI cc, oU, oU, oU, oU, oU, oU, oU, oU, oU, oU, oU, oU, oU, oU, oU, oU, oU, oU, oU, oU, oU] [(.ref b1)]
            refine own_st (fun _ k => XS.dup X1.here hx rfl (hb hby at_112) rfl rfl k) ?_
            show own_Go X1 (Q0 Z q0 q1 q2 p3 p4 p5 h0 n0) 2 41 113 #[oJ q0, oS, oJ q1, oS, oJ q2, oS, oI p3, oI p4, oI p5, oJ mn, oS, oJ mx, oS, oI ng, oI he, oI ee, oI mm, oI cr, oI cc, oU, oU, oU, oU, oU, oU, oU, oU, oU, oU, oU, oU, oU, oU, oU, oU, oU, oU, oU, oU, oU] [(.ref b1), (.ref b1)]
            refine own_st (fun _ k => XS.iconst X1.here hx rfl (hb hby at_113) k) ?_
            show own_Go X1 (Q0 Z q0 q1 q2 p3 p4 p5 h0 n0) 2 41 114 #[oJ q0, oS, oJ q1, oS, oJ q2, oS, oI p3, oI p4, oI p5, oJ mn, oS, oJ mx, oS, oI ng, oI he, oI ee, oI mm, oI cr, oI cc, oU, oU, oU, oU, oU, oU, oU, oU, oU, oU, oU, oU, oU, oU, oU, oU, oU, oU, oU, oU, oU] [(.int (0 : Int32)), (.ref b1), (.ref b1)]
            refine own_st (fun _ k => XS.lconst X1.here hx rfl (hb hby at_114) k) ?_
            show own_Go X1 (Q0 Z q0 q1 q2 p3 p4 p5 h0 n0) 2 41 115 #[oJ q0, oS, oJ q1, oS, oJ q2, oS, oI p3, oI p4, oI p5, oJ mn, oS, oJ mx, oS, oI ng, oI he, oI ee, oI mm, oI cr, oI cc, oU, oU, oU, oU, oU, oU, oU, oU, oU, oU, oU, oU, oU, oU, oU, oU, oU, oU, oU, oU, oU] [(.long (1 : Int64)), (.int (0 : Int32)), (.ref b1), (.ref b1)]
            obtain ⟨T4, h4, X4, e4, W4, V4, st4⟩ := own_stJ X1 hx hZ e1 V1 (j := (0 : Int32)) ⟨by decide, by decide⟩ (Nat.le_of_ble_eq_true rfl) (g := (mkF m 115 #[oJ q0, oS, oJ q1, oS, oJ q2, oS, oI p3, oI p4, oI p5, oJ mn, oS, oJ mx, oS, oI ng, oI he, oI ee, oI mm, oI cr, oI cc, oU, oU, oU, oU, oU, oU, oU, oU, oU, oU, oU, oU, oU, oU, oU, oU, oU, oU, oU, oU, oU] [(.long (1 : Int64)), (.int (0 : Int32)), (.ref b1), (.ref b1)])) rfl rfl (hb hby at_115)
            refine own_st st4 ?_
            have Z_5 := Nat.le_trans Z_3 (Nat.le_of_eq W4.size.symm)
            have U4 : Arv Z h4 b1 k1 .long (19 : Int32) [(.long (1 : Int64)), (.long (0 : Int64)), (.long (0 : Int64)), (.long (0 : Int64)), (.long (0 : Int64)), (.long (0 : Int64)), (.long (0 : Int64)), (.long (0 : Int64)), (.long (0 : Int64)), (.long (0 : Int64)), (.long (0 : Int64)), (.long (0 : Int64)), (.long (0 : Int64)), (.long (0 : Int64)), (.long (0 : Int64)), (.long (0 : Int64)), (.long (0 : Int64)), (.long (0 : Int64)), (.long (0 : Int64))] (.long (0 : Int64)) := V4
            have N_6 := Fr.snoc X4 N0 G_2
            show own_Go X4 (Q0 Z q0 q1 q2 p3 p4 p5 h0 n0) 2 41 116 #[oJ q0, oS, oJ q1, oS, oJ q2, oS, oI p3, oI p4, oI p5, oJ mn, oS, oJ mx, oS, oI ng, oI he, oI ee, oI mm, oI cr, oI cc, oU, oU, oU, oU, oU, oU, oU, oU, oU, oU, oU, oU, oU, oU, oU, oU, oU, oU, oU, oU, oU] [(.ref b1)]
            refine own_st (fun _ k => XS.dup X4.here hx rfl (hb hby at_116) rfl rfl k) ?_
            show own_Go X4 (Q0 Z q0 q1 q2 p3 p4 p5 h0 n0) 2 41 117 #[oJ q0, oS, oJ q1, oS, oJ q2, oS, oI p3, oI p4, oI p5, oJ mn, oS, oJ mx, oS, oI ng, oI he, oI ee, oI mm, oI cr, oI cc, oU, oU, oU, oU, oU, oU, oU, oU, oU, oU, oU, oU, oU, oU, oU, oU, oU, oU, oU, oU, oU] [(.ref b1), (.ref b1)]
            refine own_st (fun _ k => XS.iconst X4.here hx rfl (hb hby at_117) k) ?_
            show own_Go X4 (Q0 Z q0 q1 q2 p3 p4 p5 h0 n0) 2 41 118 #[oJ q0, oS, oJ q1, oS, oJ q2, oS, oI p3, oI p4, oI p5, oJ mn, oS, oJ mx, oS, oI ng, oI he, oI ee, oI mm, oI cr, oI cc, oU, oU, oU, oU, oU, oU, oU, oU, oU, oU, oU, oU, oU, oU, oU, oU, oU, oU, oU, oU, oU] [(.int (1 : Int32)), (.ref b1), (.ref b1)]
            refine own_st (fun t k => X4.ldc2Long hx hown (mvT hZ (hw _ (List.mem_of_getElem? (i := 2) rfl))) (g := (mkF m 118 #[oJ q0, oS, oJ q1, oS, oJ q2, oS, oI p3, oI p4, oI p5, oJ mn, oS, oJ mx, oS, oI ng, oI he, oI ee, oI mm, oI cr, oI cc, oU, oU, oU, oU, oU, oU, oU, oU, oU, oU, oU, oU, oU, oU, oU, oU, oU, oU, oU, oU, oU] [(.int (1 : Int32)), (.ref b1), (.ref b1)])) rfl (hb hby at_118) t k) ?_
            show own_Go X4 (Q0 Z q0 q1 q2 p3 p4 p5 h0 n0) 2 41 121 #[oJ q0, oS, oJ q1, oS, oJ q2, oS, oI p3, oI p4, oI p5, oJ mn, oS, oJ mx, oS, oI ng, oI he, oI ee, oI mm, oI cr, oI cc, oU, oU, oU, oU, oU, oU, oU, oU, oU, oU, oU, oU, oU, oU, oU, oU, oU, oU, oU, oU, oU] [(.long (10 : Int64)), (.int (1 : Int32)), (.ref b1), (.ref b1)]
            obtain ⟨T7, h7, X7, e7, W7, V7, st7⟩ := own_stJ X4 hx hZ e4 U4 (j := (1 : Int32)) ⟨by decide, by decide⟩ (Nat.le_of_ble_eq_true rfl) (g := (mkF m 121 #[oJ q0, oS, oJ q1, oS, oJ q2, oS, oI p3, oI p4, oI p5, oJ mn, oS, oJ mx, oS, oI ng, oI he, oI ee, oI mm, oI cr, oI cc, oU, oU, oU, oU, oU, oU, oU, oU, oU, oU, oU, oU, oU, oU, oU, oU, oU, oU, oU, oU, oU] [(.long (10 : Int64)), (.int (1 : Int32)), (.ref b1), (.ref b1)])) rfl rfl (hb hby at_121)
            refine own_st st7 ?_
            have Z_8 := Nat.le_trans Z_5 (Nat.le_of_eq W7.size.symm)
            have U7 : Arv Z h7 b1 k1 .long (19 : Int32) [(.long (1 : Int64)), (.long (10 : Int64)), (.long (0 : Int64)), (.long (0 : Int64)), (.long (0 : Int64)), (.long (0 : Int64)), (.long (0 : Int64)), (.long (0 : Int64)), (.long (0 : Int64)), (.long (0 : Int64)), (.long (0 : Int64)), (.long (0 : Int64)), (.long (0 : Int64)), (.long (0 : Int64)), (.long (0 : Int64)), (.long (0 : Int64)), (.long (0 : Int64)), (.long (0 : Int64)), (.long (0 : Int64))] (.long (0 : Int64)) := V7
            have N_9 := Fr.snoc X7 N_6 G_2
            show own_Go X7 (Q0 Z q0 q1 q2 p3 p4 p5 h0 n0) 2 41 122 #[oJ q0, oS, oJ q1, oS, oJ q2, oS, oI p3, oI p4, oI p5, oJ mn, oS, oJ mx, oS, oI ng, oI he, oI ee, oI mm, oI cr, oI cc, oU, oU, oU, oU, oU, oU, oU, oU, oU, oU, oU, oU, oU, oU, oU, oU, oU, oU, oU, oU, oU] [(.ref b1)]
            refine own_st (fun _ k => XS.dup X7.here hx rfl (hb hby at_122) rfl rfl k) ?_
            show own_Go X7 (Q0 Z q0 q1 q2 p3 p4 p5 h0 n0) 2 41 123 #[oJ q0, oS, oJ q1, oS, oJ q2, oS, oI p3, oI p4, oI p5, oJ mn, oS, oJ mx, oS, oI ng, oI he, oI ee, oI mm, oI cr, oI cc, oU, oU, oU, oU, oU, oU, oU, oU, oU, oU, oU, oU, oU, oU, oU, oU, oU, oU, oU, oU, oU] [(.ref b1), (.ref b1)]
            refine own_st (fun _ k => XS.iconst X7.here hx rfl (hb hby at_123) k) ?_
            show own_Go X7 (Q0 Z q0 q1 q2 p3 p4 p5 h0 n0) 2 41 124 #[oJ q0, oS, oJ q1, oS, oJ q2, oS, oI p3, oI p4, oI p5, oJ mn, oS, oJ mx, oS, oI ng, oI he, oI ee, oI mm, oI cr, oI cc, oU, oU, oU, oU, oU, oU, oU, oU, oU, oU, oU, oU, oU, oU, oU, oU, oU, oU, oU, oU, oU] [(.int (2 : Int32)), (.ref b1), (.ref b1)]
            refine own_st (fun t k => X7.ldc2Long hx hown (mvT hZ (hw _ (List.mem_of_getElem? (i := 3) rfl))) (g := (mkF m 124 #[oJ q0, oS, oJ q1, oS, oJ q2, oS, oI p3, oI p4, oI p5, oJ mn, oS, oJ mx, oS, oI ng, oI he, oI ee, oI mm, oI cr, oI cc, oU, oU, oU, oU, oU, oU, oU, oU, oU, oU, oU, oU, oU, oU, oU, oU, oU, oU, oU, oU, oU] [(.int (2 : Int32)), (.ref b1), (.ref b1)])) rfl (hb hby at_124) t k) ?_
            show own_Go X7 (Q0 Z q0 q1 q2 p3 p4 p5 h0 n0) 2 41 127 #[oJ q0, oS, oJ q1, oS, oJ q2, oS, oI p3, oI p4, oI p5, oJ mn, oS, oJ mx, oS, oI ng, oI he, oI ee, oI mm, oI cr, oI cc, oU, oU, oU, oU, oU, oU, oU, oU, oU, oU, oU, oU, oU, oU, oU, oU, oU, oU, oU, oU, oU] [(.long (100 : Int64)), (.int (2 : Int32)), (.ref b1), (.ref b1)]
            obtain ⟨T10, h10, X10, e10, W10, V10, st10⟩ := own_stJ X7 hx hZ e7 U7 (j := (2 : Int32)) ⟨by decide, by decide⟩ (Nat.le_of_ble_eq_true rfl) (g := (mkF m 127 #[oJ q0, oS, oJ q1, oS, oJ q2, oS, oI p3, oI p4, oI p5, oJ mn, oS, oJ mx, oS, oI ng, oI he, oI ee, oI mm, oI cr, oI cc, oU, oU, oU, oU, oU, oU, oU, oU, oU, oU, oU, oU, oU, oU, oU, oU, oU, oU, oU, oU, oU] [(.long (100 : Int64)), (.int (2 : Int32)), (.ref b1), (.ref b1)])) rfl rfl (hb hby at_127)
            refine own_st st10 ?_
            have Z_11 := Nat.le_trans Z_8 (Nat.le_of_eq W10.size.symm)
            have U10 : Arv Z h10 b1 k1 .long (19 : Int32) [(.long (1 : Int64)), (.long (10 : Int64)), (.long (100 : Int64)), (.long (0 : Int64)), (.long (0 : Int64)), (.long (0 : Int64)), (.long (0 : Int64)), (.long (0 : Int64)), (.long (0 : Int64)), (.long (0 : Int64)), (.long (0 : Int64)), (.long (0 : Int64)), (.long (0 : Int64)), (.long (0 : Int64)), (.long (0 : Int64)), (.long (0 : Int64)), (.long (0 : Int64)), (.long (0 : Int64)), (.long (0 : Int64))] (.long (0 : Int64)) := V10
            have N_12 := Fr.snoc X10 N_9 G_2
            show own_Go X10 (Q0 Z q0 q1 q2 p3 p4 p5 h0 n0) 2 41 128 #[oJ q0, oS, oJ q1, oS, oJ q2, oS, oI p3, oI p4, oI p5, oJ mn, oS, oJ mx, oS, oI ng, oI he, oI ee, oI mm, oI cr, oI cc, oU, oU, oU, oU, oU, oU, oU, oU, oU, oU, oU, oU, oU, oU, oU, oU, oU, oU, oU, oU, oU] [(.ref b1)]
            refine own_st (fun _ k => XS.dup X10.here hx rfl (hb hby at_128) rfl rfl k) ?_
            show own_Go X10 (Q0 Z q0 q1 q2 p3 p4 p5 h0 n0) 2 41 129 #[oJ q0, oS, oJ q1, oS, oJ q2, oS, oI p3, oI p4, oI p5, oJ mn, oS, oJ mx, oS, oI ng, oI he, oI ee, oI mm, oI cr, oI cc, oU, oU, oU, oU, oU, oU, oU, oU, oU, oU, oU, oU, oU, oU, oU, oU, oU, oU, oU, oU, oU] [(.ref b1), (.ref b1)]
            refine own_st (fun _ k => XS.iconst X10.here hx rfl (hb hby at_129) k) ?_
            show own_Go X10 (Q0 Z q0 q1 q2 p3 p4 p5 h0 n0) 2 41 130 #[oJ q0, oS, oJ q1, oS, oJ q2, oS, oI p3, oI p4, oI p5, oJ mn, oS, oJ mx, oS, oI ng, oI he, oI ee, oI mm, oI cr, oI cc, oU, oU, oU, oU, oU, oU, oU, oU, oU, oU, oU, oU, oU, oU, oU, oU, oU, oU, oU, oU, oU] [(.int (3 : Int32)), (.ref b1), (.ref b1)]
            refine own_st (fun t k => X10.ldc2Long hx hown (mvT hZ (hw _ (List.mem_of_getElem? (i := 4) rfl))) (g := (mkF m 130 #[oJ q0, oS, oJ q1, oS, oJ q2, oS, oI p3, oI p4, oI p5, oJ mn, oS, oJ mx, oS, oI ng, oI he, oI ee, oI mm, oI cr, oI cc, oU, oU, oU, oU, oU, oU, oU, oU, oU, oU, oU, oU, oU, oU, oU, oU, oU, oU, oU, oU, oU] [(.int (3 : Int32)), (.ref b1), (.ref b1)])) rfl (hb hby at_130) t k) ?_
            show own_Go X10 (Q0 Z q0 q1 q2 p3 p4 p5 h0 n0) 2 41 133 #[oJ q0, oS, oJ q1, oS, oJ q2, oS, oI p3, oI p4, oI p5, oJ mn, oS, oJ mx, oS, oI ng, oI he, oI ee, oI mm, oI cr, oI cc, oU, oU, oU, oU, oU, oU, oU, oU, oU, oU, oU, oU, oU, oU, oU, oU, oU, oU, oU, oU, oU] [(.long (1000 : Int64)), (.int (3 : Int32)), (.ref b1), (.ref b1)]
            obtain ⟨T13, h13, X13, e13, W13, V13, st13⟩ := own_stJ X10 hx hZ e10 U10 (j := (3 : Int32)) ⟨by decide, by decide⟩ (Nat.le_of_ble_eq_true rfl) (g := (mkF m 133 #[oJ q0, oS, oJ q1, oS, oJ q2, oS, oI p3, oI p4, oI p5, oJ mn, oS, oJ mx, oS, oI ng, oI he, oI ee, oI mm, oI cr, oI cc, oU, oU, oU, oU, oU, oU, oU, oU, oU, oU, oU, oU, oU, oU, oU, oU, oU, oU, oU, oU, oU] [(.long (1000 : Int64)), (.int (3 : Int32)), (.ref b1), (.ref b1)])) rfl rfl (hb hby at_133)
            refine own_st st13 ?_
            have Z_14 := Nat.le_trans Z_11 (Nat.le_of_eq W13.size.symm)
            have U13 : Arv Z h13 b1 k1 .long (19 : Int32) [(.long (1 : Int64)), (.long (10 : Int64)), (.long (100 : Int64)), (.long (1000 : Int64)), (.long (0 : Int64)), (.long (0 : Int64)), (.long (0 : Int64)), (.long (0 : Int64)), (.long (0 : Int64)), (.long (0 : Int64)), (.long (0 : Int64)), (.long (0 : Int64)), (.long (0 : Int64)), (.long (0 : Int64)), (.long (0 : Int64)), (.long (0 : Int64)), (.long (0 : Int64)), (.long (0 : Int64)), (.long (0 : Int64))] (.long (0 : Int64)) := V13
            have N_15 := Fr.snoc X13 N_12 G_2
            show own_Go X13 (Q0 Z q0 q1 q2 p3 p4 p5 h0 n0) 2 41 134 #[oJ q0, oS, oJ q1, oS, oJ q2, oS, oI p3, oI p4, oI p5, oJ mn, oS, oJ mx, oS, oI ng, oI he, oI ee, oI mm, oI cr, oI cc, oU, oU, oU, oU, oU, oU, oU, oU, oU, oU, oU, oU, oU, oU, oU, oU, oU, oU, oU, oU, oU] [(.ref b1)]
            refine own_st (fun _ k => XS.dup X13.here hx rfl (hb hby at_134) rfl rfl k) ?_
            show own_Go X13 (Q0 Z q0 q1 q2 p3 p4 p5 h0 n0) 2 41 135 #[oJ q0, oS, oJ q1, oS, oJ q2, oS, oI p3, oI p4, oI p5, oJ mn, oS, oJ mx, oS, oI ng, oI he, oI ee, oI mm, oI cr, oI cc, oU, oU, oU, oU, oU, oU, oU, oU, oU, oU, oU, oU, oU, oU, oU, oU, oU, oU, oU, oU, oU] [(.ref b1), (.ref b1)]
            refine own_st (fun _ k => XS.iconst X13.here hx rfl (hb hby at_135) k) ?_
            show own_Go X13 (Q0 Z q0 q1 q2 p3 p4 p5 h0 n0) 2 41 136 #[oJ q0, oS, oJ q1, oS, oJ q2, oS, oI p3, oI p4, oI p5, oJ mn, oS, oJ mx, oS, oI ng, oI he, oI ee, oI mm, oI cr, oI cc, oU, oU, oU, oU, oU, oU, oU, oU, oU, oU, oU, oU, oU, oU, oU, oU, oU, oU, oU, oU, oU] [(.int (4 : Int32)), (.ref b1), (.ref b1)]
            refine own_st (fun t k => X13.ldc2Long hx hown (mvT hZ (hw _ (List.mem_of_getElem? (i := 5) rfl))) (g := (mkF m 136 #[oJ q0, oS, oJ q1, oS, oJ q2, oS, oI p3, oI p4, oI p5, oJ mn, oS, oJ mx, oS, oI ng, oI he, oI ee, oI mm, oI cr, oI cc, oU, oU, oU, oU, oU, oU, oU, oU, oU, oU, oU, oU, oU, oU, oU, oU, oU, oU, oU, oU, oU] [(.int (4 : Int32)), (.ref b1), (.ref b1)])) rfl (hb hby at_136) t k) ?_
            show own_Go X13 (Q0 Z q0 q1 q2 p3 p4 p5 h0 n0) 2 41 139 #[oJ q0, oS, oJ q1, oS, oJ q2, oS, oI p3, oI p4, oI p5, oJ mn, oS, oJ mx, oS, oI ng, oI he, oI ee, oI mm, oI cr, oI cc, oU, oU, oU, oU, oU, oU, oU, oU, oU, oU, oU, oU, oU, oU, oU, oU, oU, oU, oU, oU, oU] [(.long (10000 : Int64)), (.int (4 : Int32)), (.ref b1), (.ref b1)]
            obtain ⟨T16, h16, X16, e16, W16, V16, st16⟩ := own_stJ X13 hx hZ e13 U13 (j := (4 : Int32)) ⟨by decide, by decide⟩ (Nat.le_of_ble_eq_true rfl) (g := (mkF m 139 #[oJ q0, oS, oJ q1, oS, oJ q2, oS, oI p3, oI p4, oI p5, oJ mn, oS, oJ mx, oS, oI ng, oI he, oI ee, oI mm, oI cr, oI cc, oU, oU, oU, oU, oU, oU, oU, oU, oU, oU, oU, oU, oU, oU, oU, oU, oU, oU, oU, oU, oU] [(.long (10000 : Int64)), (.int (4 : Int32)), (.ref b1), (.ref b1)])) rfl rfl (hb hby at_139)
            refine own_st st16 ?_
            have Z_17 := Nat.le_trans Z_14 (Nat.le_of_eq W16.size.symm)
            have U16 : Arv Z h16 b1 k1 .long (19 : Int32) [(.long (1 : Int64)), (.long (10 : Int64)), (.long (100 : Int64)), (.long (1000 : Int64)), (.long (10000 : Int64)), (.long (0 : Int64)), (.long (0 : Int64)), (.long (0 : Int64)), (.long (0 : Int64)), (.long (0 : Int64)), (.long (0 : Int64)), (.long (0 : Int64)), (.long (0 : Int64)), (.long (0 : Int64)), (.long (0 : Int64)), (.long (0 : Int64)), (.long (0 : Int64)), (.long (0 : Int64)), (.long (0 : Int64))] (.long (0 : Int64)) := V16
            have N_18 := Fr.snoc X16 N_15 G_2
            show own_Go X16 (Q0 Z q0 q1 q2 p3 p4 p5 h0 n0) 2 41 140 #[oJ q0, oS, oJ q1, oS, oJ q2, oS, oI p3, oI p4, oI p5, oJ mn, oS, oJ mx, oS, oI ng, oI he, oI ee, oI mm, oI cr, oI cc, oU, oU, oU, oU, oU, oU, oU, oU, oU, oU, oU, oU, oU, oU, oU, oU, oU, oU, oU, oU, oU] [(.ref b1)]
            refine own_st (fun _ k => XS.dup X16.here hx rfl (hb hby at_140) rfl rfl k) ?_
            show own_Go X16 (Q0 Z q0 q1 q2 p3 p4 p5 h0 n0) 2 41 141 #[oJ q0, oS, oJ q1, oS, oJ q2, oS, oI p3, oI p4, oI p5, oJ mn, oS, oJ mx, oS, oI ng, oI he, oI ee, oI mm, oI cr, oI cc, oU, oU, oU, oU, oU, oU, oU, oU, oU, oU, oU, oU, oU, oU, oU, oU, oU, oU, oU, oU, oU] [(.ref b1), (.ref b1)]
            refine own_st (fun _ k => XS.iconst X16.here hx rfl (hb hby at_141) k) ?_
            show own_Go X16 (Q0 Z q0 q1 q2 p3 p4 p5 h0 n0) 2 41 142 #[oJ q0, oS, oJ q1, oS, oJ q2, oS, oI p3, oI p4, oI p5, oJ mn, oS, oJ mx, oS, oI ng, oI he, oI ee, oI mm, oI cr, oI cc, oU, oU, oU, oU, oU, oU, oU, oU, oU, oU, oU, oU, oU, oU, oU, oU, oU, oU, oU, oU, oU] [(.int (5 : Int32)), (.ref b1), (.ref b1)]
            refine own_st (fun t k => X16.ldc2Long hx hown (mvT hZ (hw _ (List.mem_of_getElem? (i := 6) rfl))) (g := (mkF m 142 #[oJ q0, oS, oJ q1, oS, oJ q2, oS, oI p3, oI p4, oI p5, oJ mn, oS, oJ mx, oS, oI ng, oI he, oI ee, oI mm, oI cr, oI cc, oU, oU, oU, oU, oU, oU, oU, oU, oU, oU, oU, oU, oU, oU, oU, oU, oU, oU, oU, oU, oU] [(.int (5 : Int32)), (.ref b1), (.ref b1)])) rfl (hb hby at_142) t k) ?_
            show own_Go X16 (Q0 Z q0 q1 q2 p3 p4 p5 h0 n0) 2 41 145 #[oJ q0, oS, oJ q1, oS, oJ q2, oS, oI p3, oI p4, oI p5, oJ mn, oS, oJ mx, oS, oI ng, oI he, oI ee, oI mm, oI cr, oI cc, oU, oU, oU, oU, oU, oU, oU, oU, oU, oU, oU, oU, oU, oU, oU, oU, oU, oU, oU, oU, oU] [(.long (100000 : Int64)), (.int (5 : Int32)), (.ref b1), (.ref b1)]
            obtain ⟨T19, h19, X19, e19, W19, V19, st19⟩ := own_stJ X16 hx hZ e16 U16 (j := (5 : Int32)) ⟨by decide, by decide⟩ (Nat.le_of_ble_eq_true rfl) (g := (mkF m 145 #[oJ q0, oS, oJ q1, oS, oJ q2, oS, oI p3, oI p4, oI p5, oJ mn, oS, oJ mx, oS, oI ng, oI he, oI ee, oI mm, oI cr, oI cc, oU, oU, oU, oU, oU, oU, oU, oU, oU, oU, oU, oU, oU, oU, oU, oU, oU, oU, oU, oU, oU] [(.long (100000 : Int64)), (.int (5 : Int32)), (.ref b1), (.ref b1)])) rfl rfl (hb hby at_145)
            refine own_st st19 ?_
            have Z_20 := Nat.le_trans Z_17 (Nat.le_of_eq W19.size.symm)
            have U19 : Arv Z h19 b1 k1 .long (19 : Int32) [(.long (1 : Int64)), (.long (10 : Int64)), (.long (100 : Int64)), (.long (1000 : Int64)), (.long (10000 : Int64)), (.long (100000 : Int64)), (.long (0 : Int64)), (.long (0 : Int64)), (.long (0 : Int64)), (.long (0 : Int64)), (.long (0 : Int64)), (.long (0 : Int64)), (.long (0 : Int64)), (.long (0 : Int64)), (.long (0 : Int64)), (.long (0 : Int64)), (.long (0 : Int64)), (.long (0 : Int64)), (.long (0 : Int64))] (.long (0 : Int64)) := V19
            have N_21 := Fr.snoc X19 N_18 G_2
            show own_Go X19 (Q0 Z q0 q1 q2 p3 p4 p5 h0 n0) 2 41 146 #[oJ q0, oS, oJ q1, oS, oJ q2, oS, oI p3, oI p4, oI p5, oJ mn, oS, oJ mx, oS, oI ng, oI he, oI ee, oI mm, oI cr, oI cc, oU, oU, oU, oU, oU, oU, oU, oU, oU, oU, oU, oU, oU, oU, oU, oU, oU, oU, oU, oU, oU] [(.ref b1)]
            refine own_st (fun _ k => XS.dup X19.here hx rfl (hb hby at_146) rfl rfl k) ?_
            show own_Go X19 (Q0 Z q0 q1 q2 p3 p4 p5 h0 n0) 2 41 147 #[oJ q0, oS, oJ q1, oS, oJ q2, oS, oI p3, oI p4, oI p5, oJ mn, oS, oJ mx, oS, oI ng, oI he, oI ee, oI mm, oI cr, oI cc, oU, oU, oU, oU, oU, oU, oU, oU, oU, oU, oU, oU, oU, oU, oU, oU, oU, oU, oU, oU, oU] [(.ref b1), (.ref b1)]
            refine own_st (fun _ k => XS.bipush X19.here hx rfl (hb hby at_147) k) ?_
            show own_Go X19 (Q0 Z q0 q1 q2 p3 p4 p5 h0 n0) 2 41 149 #[oJ q0, oS, oJ q1, oS, oJ q2, oS, oI p3, oI p4, oI p5, oJ mn, oS, oJ mx, oS, oI ng, oI he, oI ee, oI mm, oI cr, oI cc, oU, oU, oU, oU, oU, oU, oU, oU, oU, oU, oU, oU, oU, oU, oU, oU, oU, oU, oU, oU, oU] [(.int (6 : Int32)), (.ref b1), (.ref b1)]
            refine own_st (fun t k => X19.ldc2Long hx hown (mvT hZ (hw _ (List.mem_of_getElem? (i := 7) rfl))) (g := (mkF m 149 #[oJ q0, oS, oJ q1, oS, oJ q2, oS, oI p3, oI p4, oI p5, oJ mn, oS, oJ mx, oS, oI ng, oI he, oI ee, oI mm, oI cr, oI cc, oU, oU, oU, oU, oU, oU, oU, oU, oU, oU, oU, oU, oU, oU, oU, oU, oU, oU, oU, oU, oU] [(.int (6 : Int32)), (.ref b1), (.ref b1)])) rfl (hb hby at_149) t k) ?_
            show own_Go X19 (Q0 Z q0 q1 q2 p3 p4 p5 h0 n0) 2 41 152 #[oJ q0, oS, oJ q1, oS, oJ q2, oS, oI p3, oI p4, oI p5, oJ mn, oS, oJ mx, oS, oI ng, oI he, oI ee, oI mm, oI cr, oI cc, oU, oU, oU, oU, oU, oU, oU, oU, oU, oU, oU, oU, oU, oU, oU, oU, oU, oU, oU, oU, oU] [(.long (1000000 : Int64)), (.int (6 : Int32)), (.ref b1), (.ref b1)]
            obtain ⟨T22, h22, X22, e22, W22, V22, st22⟩ := own_stJ X19 hx hZ e19 U19 (j := (6 : Int32)) ⟨by decide, by decide⟩ (Nat.le_of_ble_eq_true rfl) (g := (mkF m 152 #[oJ q0, oS, oJ q1, oS, oJ q2, oS, oI p3, oI p4, oI p5, oJ mn, oS, oJ mx, oS, oI ng, oI he, oI ee, oI mm, oI cr, oI cc, oU, oU, oU, oU, oU, oU, oU, oU, oU, oU, oU, oU, oU, oU, oU, oU, oU, oU, oU, oU, oU] [(.long (1000000 : Int64)), (.int (6 : Int32)), (.ref b1), (.ref b1)])) rfl rfl (hb hby at_152)
            refine own_st st22 ?_
            have Z_23 := Nat.le_trans Z_20 (Nat.le_of_eq W22.size.symm)
            have U22 : Arv Z h22 b1 k1 .long (19 : Int32) [(.long (1 : Int64)), (.long (10 : Int64)), (.long (100 : Int64)), (.long (1000 : Int64)), (.long (10000 : Int64)), (.long (100000 : Int64)), (.long (1000000 : Int64)), (.long (0 : Int64)), (.long (0 : Int64)), (.long (0 : Int64)), (.long (0 : Int64)), (.long (0 : Int64)), (.long (0 : Int64)), (.long (0 : Int64)), (.long (0 : Int64)), (.long (0 : Int64)), (.long (0 : Int64)), (.long (0 : Int64)), (.long (0 : Int64))] (.long (0 : Int64)) := V22
            have N_24 := Fr.snoc X22 N_21 G_2
            show own_Go X22 (Q0 Z q0 q1 q2 p3 p4 p5 h0 n0) 2 41 153 #[oJ q0, oS, oJ q1, oS, oJ q2, oS, oI p3, oI p4, oI p5, oJ mn, oS, oJ mx, oS, oI ng, oI he, oI ee, oI mm, oI cr, oI cc, oU, oU, oU, oU, oU, oU, oU, oU, oU, oU, oU, oU, oU, oU, oU, oU, oU, oU, oU, oU, oU] [(.ref b1)]
            refine own_st (fun _ k => XS.dup X22.here hx rfl (hb hby at_153) rfl rfl k) ?_
            show own_Go X22 (Q0 Z q0 q1 q2 p3 p4 p5 h0 n0) 2 41 154 #[oJ q0, oS, oJ q1, oS, oJ q2, oS, oI p3, oI p4, oI p5, oJ mn, oS, oJ mx, oS, oI ng, oI he, oI ee, oI mm, oI cr, oI cc, oU, oU, oU, oU, oU, oU, oU, oU, oU, oU, oU, oU, oU, oU, oU, oU, oU, oU, oU, oU, oU] [(.ref b1), (.ref b1)]
            refine own_st (fun _ k => XS.bipush X22.here hx rfl (hb hby at_154) k) ?_
            show own_Go X22 (Q0 Z q0 q1 q2 p3 p4 p5 h0 n0) 2 41 156 #[oJ q0, oS, oJ q1, oS, oJ q2, oS, oI p3, oI p4, oI p5, oJ mn, oS, oJ mx, oS, oI ng, oI he, oI ee, oI mm, oI cr, oI cc, oU, oU, oU, oU, oU, oU, oU, oU, oU, oU, oU, oU, oU, oU, oU, oU, oU, oU, oU, oU, oU] [(.int (7 : Int32)), (.ref b1), (.ref b1)]
            refine own_st (fun t k => X22.ldc2Long hx hown (mvT hZ (hw _ (List.mem_of_getElem? (i := 8) rfl))) (g := (mkF m 156 #[oJ q0, oS, oJ q1, oS, oJ q2, oS, oI p3, oI p4, oI p5, oJ mn, oS, oJ mx, oS, oI ng, oI he, oI ee, oI mm, oI cr, oI cc, oU, oU, oU, oU, oU, oU, oU, oU, oU, oU, oU, oU, oU, oU, oU, oU, oU, oU, oU, oU, oU] [(.int (7 : Int32)), (.ref b1), (.ref b1)])) rfl (hb hby at_156) t k) ?_
            show own_Go X22 (Q0 Z q0 q1 q2 p3 p4 p5 h0 n0) 2 41 159 #[oJ q0, oS, oJ q1, oS, oJ q2, oS, oI p3, oI p4, oI p5, oJ mn, oS, oJ mx, oS, oI ng, oI he, oI ee, oI mm, oI cr, oI cc, oU, oU, oU, oU, oU, oU, oU, oU, oU, oU, oU, oU, oU, oU, oU, oU, oU, oU, oU, oU, oU] [(.long (10000000 : Int64)), (.int (7 : Int32)), (.ref b1), (.ref b1)]
            obtain ⟨T25, h25, X25, e25, W25, V25, st25⟩ := own_stJ X22 hx hZ e22 U22 (j := (7 : Int32)) ⟨by decide, by decide⟩ (Nat.le_of_ble_eq_true rfl) (g := (mkF m 159 #[oJ q0, oS, oJ q1, oS, oJ q2, oS, oI p3, oI p4, oI p5, oJ mn, oS, oJ mx, oS, oI ng, oI he, oI ee, oI mm, oI cr, oI cc, oU, oU, oU, oU, oU, oU, oU, oU, oU, oU, oU, oU, oU, oU, oU, oU, oU, oU, oU, oU, oU] [(.long (10000000 : Int64)), (.int (7 : Int32)), (.ref b1), (.ref b1)])) rfl rfl (hb hby at_159)
            refine own_st st25 ?_
            have Z_26 := Nat.le_trans Z_23 (Nat.le_of_eq W25.size.symm)
            have U25 : Arv Z h25 b1 k1 .long (19 : Int32) [(.long (1 : Int64)), (.long (10 : Int64)), (.long (100 : Int64)), (.long (1000 : Int64)), (.long (10000 : Int64)), (.long (100000 : Int64)), (.long (1000000 : Int64)), (.long (10000000 : Int64)), (.long (0 : Int64)), (.long (0 : Int64)), (.long (0 : Int64)), (.long (0 : Int64)), (.long (0 : Int64)), (.long (0 : Int64)), (.long (0 : Int64)), (.long (0 : Int64)), (.long (0 : Int64)), (.long (0 : Int64)), (.long (0 : Int64))] (.long (0 : Int64)) := V25
            have N_27 := Fr.snoc X25 N_24 G_2
            show own_Go X25 (Q0 Z q0 q1 q2 p3 p4 p5 h0 n0) 2 41 160 #[oJ q0, oS, oJ q1, oS, oJ q2, oS, oI p3, oI p4, oI p5, oJ mn, oS, oJ mx, oS, oI ng, oI he, oI ee, oI mm, oI cr, oI cc, oU, oU, oU, oU, oU, oU, oU, oU, oU, oU, oU, oU, oU, oU, oU, oU, oU, oU, oU, oU, oU] [(.ref b1)]
            refine own_st (fun _ k => XS.dup X25.here hx rfl (hb hby at_160) rfl rfl k) ?_
            show own_Go X25 (Q0 Z q0 q1 q2 p3 p4 p5 h0 n0) 2 41 161 #[oJ q0, oS, oJ q1, oS, oJ q2, oS, oI p3, oI p4, oI p5, oJ mn, oS, oJ mx, oS, oI ng, oI he, oI ee, oI mm, oI cr, oI cc, oU, oU, oU, oU, oU, oU, oU, oU, oU, oU, oU, oU, oU, oU, oU, oU, oU, oU, oU, oU, oU] [(.ref b1), (.ref b1)]
            refine own_st (fun _ k => XS.bipush X25.here hx rfl (hb hby at_161) k) ?_
            show own_Go X25 (Q0 Z q0 q1 q2 p3 p4 p5 h0 n0) 2 41 163 #[oJ q0, oS, oJ q1, oS, oJ q2, oS, oI p3, oI p4, oI p5, oJ mn, oS, oJ mx, oS, oI ng, oI he, oI ee, oI mm, oI cr, oI cc, oU, oU, oU, oU, oU, oU, oU, oU, oU, oU, oU, oU, oU, oU, oU, oU, oU, oU, oU, oU, oU] [(.int (8 : Int32)), (.ref b1), (.ref b1)]
            refine own_st (fun t k => X25.ldc2Long hx hown (mvT hZ (hw _ (List.mem_of_getElem? (i := 9) rfl))) (g := (mkF m 163 #[oJ q0, oS, oJ q1, oS, oJ q2, oS, oI p3, oI p4, oI p5, oJ mn, oS, oJ mx, oS, oI ng, oI he, oI ee, oI mm, oI cr, oI cc, oU, oU, oU, oU, oU, oU, oU, oU, oU, oU, oU, oU, oU, oU, oU, oU, oU, oU, oU, oU, oU] [(.int (8 : Int32)), (.ref b1), (.ref b1)])) rfl (hb hby at_163) t k) ?_
            show own_Go X25 (Q0 Z q0 q1 q2 p3 p4 p5 h0 n0) 2 41 166 #[oJ q0, oS, oJ q1, oS, oJ q2, oS, oI p3, oI p4, oI p5, oJ mn, oS, oJ mx, oS, oI ng, oI he, oI ee, oI mm, oI cr, oI cc, oU, oU, oU, oU, oU, oU, oU, oU, oU, oU, oU, oU, oU, oU, oU, oU, oU, oU, oU, oU, oU] [(.long (100000000 : Int64)), (.int (8 : Int32)), (.ref b1), (.ref b1)]
            obtain ⟨T28, h28, X28, e28, W28, V28, st28⟩ := own_stJ X25 hx hZ e25 U25 (j := (8 : Int32)) ⟨by decide, by decide⟩ (Nat.le_of_ble_eq_true rfl) (g := (mkF m 166 #[oJ q0, oS, oJ q1, oS, oJ q2, oS, oI p3, oI p4, oI p5, oJ mn, oS, oJ mx, oS, oI ng, oI he, oI ee, oI mm, oI cr, oI cc, oU, oU, oU, oU, oU, oU, oU, oU, oU, oU, oU, oU, oU, oU, oU, oU, oU, oU, oU, oU, oU] [(.long (100000000 : Int64)), (.int (8 : Int32)), (.ref b1), (.ref b1)])) rfl rfl (hb hby at_166)
            refine own_st st28 ?_
            have Z_29 := Nat.le_trans Z_26 (Nat.le_of_eq W28.size.symm)
            have U28 : Arv Z h28 b1 k1 .long (19 : Int32) [(.long (1 : Int64)), (.long (10 : Int64)), (.long (100 : Int64)), (.long (1000 : Int64)), (.long (10000 : Int64)), (.long (100000 : Int64)), (.long (1000000 : Int64)), (.long (10000000 : Int64)), (.long (100000000 : Int64)), (.long (0 : Int64)), (.long (0 : Int64)), (.long (0 : Int64)), (.long (0 : Int64)), (.long (0 : Int64)), (.long (0 : Int64)), (.long (0 : Int64)), (.long (0 : Int64)), (.long (0 : Int64)), (.long (0 : Int64))] (.long (0 : Int64)) := V28
            have N_30 := Fr.snoc X28 N_27 G_2
            show own_Go X28 (Q0 Z q0 q1 q2 p3 p4 p5 h0 n0) 2 41 167 #[oJ q0, oS, oJ q1, oS, oJ q2, oS, oI p3, oI p4, oI p5, oJ mn, oS, oJ mx, oS, oI ng, oI he, oI ee, oI mm, oI cr, oI cc, oU, oU, oU, oU, oU, oU, oU, oU, oU, oU, oU, oU, oU, oU, oU, oU, oU, oU, oU, oU, oU] [(.ref b1)]
            refine own_st (fun _ k => XS.dup X28.here hx rfl (hb hby at_167) rfl rfl k) ?_
            show own_Go X28 (Q0 Z q0 q1 q2 p3 p4 p5 h0 n0) 2 41 168 #[oJ q0, oS, oJ q1, oS, oJ q2, oS, oI p3, oI p4, oI p5, oJ mn, oS, oJ mx, oS, oI ng, oI he, oI ee, oI mm, oI cr, oI cc, oU, oU, oU, oU, oU, oU, oU, oU, oU, oU, oU, oU, oU, oU, oU, oU, oU, oU, oU, oU, oU] [(.ref b1), (.ref b1)]
            refine own_st (fun _ k => XS.bipush X28.here hx rfl (hb hby at_168) k) ?_
            show own_Go X28 (Q0 Z q0 q1 q2 p3 p4 p5 h0 n0) 2 41 170 #[oJ q0, oS, oJ q1, oS, oJ q2, oS, oI p3, oI p4, oI p5, oJ mn, oS, oJ mx, oS, oI ng, oI he, oI ee, oI mm, oI cr, oI cc, oU, oU, oU, oU, oU, oU, oU, oU, oU, oU, oU, oU, oU, oU, oU, oU, oU, oU, oU, oU, oU] [(.int (9 : Int32)), (.ref b1), (.ref b1)]
            refine own_st (fun t k => X28.ldc2Long hx hown (mvT hZ (hw _ (List.mem_of_getElem? (i := 10) rfl))) (g := (mkF m 170 #[oJ q0, oS, oJ q1, oS, oJ q2, oS, oI p3, oI p4, oI p5, oJ mn, oS, oJ mx, oS, oI ng, oI he, oI ee, oI mm, oI cr, oI cc, oU, oU, oU, oU, oU, oU, oU, oU, oU, oU, oU, oU, oU, oU, oU, oU, oU, oU, oU, oU, oU] [(.int (9 : Int32)), (.ref b1), (.ref b1)])) rfl (hb hby at_170) t k) ?_
            show own_Go X28 (Q0 Z q0 q1 q2 p3 p4 p5 h0 n0) 2 41 173 #[oJ q0, oS, oJ q1, oS, oJ q2, oS, oI p3, oI p4, oI p5, oJ mn, oS, oJ mx, oS, oI ng, oI he, oI ee, oI mm, oI cr, oI cc, oU, oU, oU, oU, oU, oU, oU, oU, oU, oU, oU, oU, oU, oU, oU, oU, oU, oU, oU, oU, oU] [(.long (1000000000 : Int64)), (.int (9 : Int32)), (.ref b1), (.ref b1)]
            obtain ⟨T31, h31, X31, e31, W31, V31, st31⟩ := own_stJ X28 hx hZ e28 U28 (j := (9 : Int32)) ⟨by decide, by decide⟩ (Nat.le_of_ble_eq_true rfl) (g := (mkF m 173 #[oJ q0, oS, oJ q1, oS, oJ q2, oS, oI p3, oI p4, oI p5, oJ mn, oS, oJ mx, oS, oI ng, oI he, oI ee, oI mm, oI cr, oI cc, oU, oU, oU, oU, oU, oU, oU, oU, oU, oU, oU, oU, oU, oU, oU, oU, oU, oU, oU, oU, oU] [(.long (1000000000 : Int64)), (.int (9 : Int32)), (.ref b1), (.ref b1)])) rfl rfl (hb hby at_173)
            refine own_st st31 ?_
            have Z_32 := Nat.le_trans Z_29 (Nat.le_of_eq W31.size.symm)
            have U31 : Arv Z h31 b1 k1 .long (19 : Int32) [(.long (1 : Int64)), (.long (10 : Int64)), (.long (100 : Int64)), (.long (1000 : Int64)), (.long (10000 : Int64)), (.long (100000 : Int64)), (.long (1000000 : Int64)), (.long (10000000 : Int64)), (.long (100000000 : Int64)), (.long (1000000000 : Int64)), (.long (0 : Int64)), (.long (0 : Int64)), (.long (0 : Int64)), (.long (0 : Int64)), (.long (0 : Int64)), (.long (0 : Int64)), (.long (0 : Int64)), (.long (0 : Int64)), (.long (0 : Int64))] (.long (0 : Int64)) := V31
            have N_33 := Fr.snoc X31 N_30 G_2
            show own_Go X31 (Q0 Z q0 q1 q2 p3 p4 p5 h0 n0) 2 41 174 #[oJ q0, oS, oJ q1, oS, oJ q2, oS, oI p3, oI p4, oI p5, oJ mn, oS, oJ mx, oS, oI ng, oI he, oI ee, oI mm, oI cr, oI cc, oU, oU, oU, oU, oU, oU, oU, oU, oU, oU, oU, oU, oU, oU, oU, oU, oU, oU, oU, oU, oU] [(.ref b1)]
            refine own_st (fun _ k => XS.dup X31.here hx rfl (hb hby at_174) rfl rfl k) ?_
            show own_Go X31 (Q0 Z q0 q1 q2 p3 p4 p5 h0 n0) 2 41 175 #[oJ q0, oS, oJ q1, oS, oJ q2, oS, oI p3, oI p4, oI p5, oJ mn, oS, oJ mx, oS, oI ng, oI he, oI ee, oI mm, oI cr, oI cc, oU, oU, oU, oU, oU, oU, oU, oU, oU, oU, oU, oU, oU, oU, oU, oU, oU, oU, oU, oU, oU] [(.ref b1), (.ref b1)]
            refine own_st (fun _ k => XS.bipush X31.here hx rfl (hb hby at_175) k) ?_
            show own_Go X31 (Q0 Z q0 q1 q2 p3 p4 p5 h0 n0) 2 41 177 #[oJ q0, oS, oJ q1, oS, oJ q2, oS, oI p3, oI p4, oI p5, oJ mn, oS, oJ mx, oS, oI ng, oI he, oI ee, oI mm, oI cr, oI cc, oU, oU, oU, oU, oU, oU, oU, oU, oU, oU, oU, oU, oU, oU, oU, oU, oU, oU, oU, oU, oU] [(.int (10 : Int32)), (.ref b1), (.ref b1)]
            refine own_st (fun t k => X31.ldc2Long hx hown (mvT hZ (hw _ (List.mem_of_getElem? (i := 11) rfl))) (g := (mkF m 177 #[oJ q0, oS, oJ q1, oS, oJ q2, oS, oI p3, oI p4, oI p5, oJ mn, oS, oJ mx, oS, oI ng, oI he, oI ee, oI mm, oI cr, oI cc, oU, oU, oU, oU, oU, oU, oU, oU, oU, oU, oU, oU, oU, oU, oU, oU, oU, oU, oU, oU, oU] [(.int (10 : Int32)), (.ref b1), (.ref b1)])) rfl (hb hby at_177) t k) ?_
            show own_Go X31 (Q0 Z q0 q1 q2 p3 p4 p5 h0 n0) 2 41 180 #[oJ q0, oS, oJ q1, oS, oJ q2, oS, oI p3, oI p4, oI p5, oJ mn, oS, oJ mx, oS, oI ng, oI he, oI ee, oI mm, oI cr, oI cc, oU, oU, oU, oU, oU, oU, oU, oU, oU, oU, oU, oU, oU, oU, oU, oU, oU, oU, oU, oU, oU] [(.long (10000000000 : Int64)), (.int (10 : Int32)), (.ref b1), (.ref b1)]
            obtain ⟨T34, h34, X34, e34, W34, V34, st34⟩ := own_stJ X31 hx hZ e31 U31 (j := (10 : Int32)) ⟨by decide, by decide⟩ (Nat.le_of_ble_eq_true rfl) (g := (mkF m 180 #[oJ q0, oS, oJ q1, oS, oJ q2, oS, oI p3, oI p4, oI p5, oJ mn, oS, oJ mx, oS, oI ng, oI he, oI ee, oI mm, oI cr, oI cc, oU, oU, oU, oU, oU, oU, oU, oU, oU, oU, oU, oU, oU, oU, oU, oU, oU, oU, oU, oU, oU] [(.long (10000000000 : Int64)), (.int (10 : Int32)), (.ref b1), (.ref b1)])) rfl rfl (hb hby at_180)
            refine own_st st34 ?_
            have Z_35 := Nat.le_trans Z_32 (Nat.le_of_eq W34.size.symm)
            have U34 : Arv Z h34 b1 k1 .long (19 : Int32) [(.long (1 : Int64)), (.long (10 : Int64)), (.long (100 : Int64)), (.long (1000 : Int64)), (.long (10000 : Int64)), (.long (100000 : Int64)), (.long (1000000 : Int64)), (.long (10000000 : Int64)), (.long (100000000 : Int64)), (.long (1000000000 : Int64)), (.long (10000000000 : Int64)), (.long (0 : Int64)), (.long (0 : Int64)), (.long (0 : Int64)), (.long (0 : Int64)), (.long (0 : Int64)), (.long (0 : Int64)), (.long (0 : Int64)), (.long (0 : Int64))] (.long (0 : Int64)) := V34
            have N_36 := Fr.snoc X34 N_33 G_2
            show own_Go X34 (Q0 Z q0 q1 q2 p3 p4 p5 h0 n0) 2 41 181 #[oJ q0, oS, oJ q1, oS, oJ q2, oS, oI p3, oI p4, oI p5, oJ mn, oS, oJ mx, oS, oI ng, oI he, oI ee, oI mm, oI cr, oI cc, oU, oU, oU, oU, oU, oU, oU, oU, oU, oU, oU, oU, oU, oU, oU, oU, oU, oU, oU, oU, oU] [(.ref b1)]
            refine own_st (fun _ k => XS.dup X34.here hx rfl (hb hby at_181) rfl rfl k) ?_
            show own_Go X34 (Q0 Z q0 q1 q2 p3 p4 p5 h0 n0) 2 41 182 #[oJ q0, oS, oJ q1, oS, oJ q2, oS, oI p3, oI p4, oI p5, oJ mn, oS, oJ mx, oS, oI ng, oI he, oI ee, oI mm, oI cr, oI cc, oU, oU, oU, oU, oU, oU, oU, oU, oU, oU, oU, oU, oU, oU, oU, oU, oU, oU, oU, oU, oU] [(.ref b1), (.ref b1)]
            refine own_st (fun _ k => XS.bipush X34.here hx rfl (hb hby at_182) k) ?_
            show own_Go X34 (Q0 Z q0 q1 q2 p3 p4 p5 h0 n0) 2 41 184 #[oJ q0, oS, oJ q1, oS, oJ q2, oS, oI p3, oI p4, oI p5, oJ mn, oS, oJ mx, oS, oI ng, oI he, oI ee, oI mm, oI cr, oI cc, oU, oU, oU, oU, oU, oU, oU, oU, oU, oU, oU, oU, oU, oU, oU, oU, oU, oU, oU, oU, oU] [(.int (11 : Int32)), (.ref b1), (.ref b1)]
            refine own_st (fun t k => X34.ldc2Long hx hown (mvT hZ (hw _ (List.mem_of_getElem? (i := 12) rfl))) (g := (mkF m 184 #[oJ q0, oS, oJ q1, oS, oJ q2, oS, oI p3, oI p4, oI p5, oJ mn, oS, oJ mx, oS, oI ng, oI he, oI ee, oI mm, oI cr, oI cc, oU, oU, oU, oU, oU, oU, oU, oU, oU, oU, oU, oU, oU, oU, oU, oU, oU, oU, oU, oU, oU] [(.int (11 : Int32)), (.ref b1), (.ref b1)])) rfl (hb hby at_184) t k) ?_
            show own_Go X34 (Q0 Z q0 q1 q2 p3 p4 p5 h0 n0) 2 41 187 #[oJ q0, oS, oJ q1, oS, oJ q2, oS, oI p3, oI p4, oI p5, oJ mn, oS, oJ mx, oS, oI ng, oI he, oI ee, oI mm, oI cr, oI cc, oU, oU, oU, oU, oU, oU, oU, oU, oU, oU, oU, oU, oU, oU, oU, oU, oU, oU, oU, oU, oU] [(.long (100000000000 : Int64)), (.int (11 : Int32)), (.ref b1), (.ref b1)]
            obtain ⟨T37, h37, X37, e37, W37, V37, st37⟩ := own_stJ X34 hx hZ e34 U34 (j := (11 : Int32)) ⟨by decide, by decide⟩ (Nat.le_of_ble_eq_true rfl) (g := (mkF m 187 #[oJ q0, oS, oJ q1, oS, oJ q2, oS, oI p3, oI p4, oI p5, oJ mn, oS, oJ mx, oS, oI ng, oI he, oI ee, oI mm, oI cr, oI cc, oU, oU, oU, oU, oU, oU, oU, oU, oU, oU, oU, oU, oU, oU, oU, oU, oU, oU, oU, oU, oU] [(.long (100000000000 : Int64)), (.int (11 : Int32)), (.ref b1), (.ref b1)])) rfl rfl (hb hby at_187)
            refine own_st st37 ?_
            have Z_38 := Nat.le_trans Z_35 (Nat.le_of_eq W37.size.symm)
            have U37 : Arv Z h37 b1 k1 .long (19 : Int32) [(.long (1 : Int64)), (.long (10 : Int64)), (.long (100 : Int64)), (.long (1000 : Int64)), (.long (10000 : Int64)), (.long (100000 : Int64)), (.long (1000000 : Int64)), (.long (10000000 : Int64)), (.long (100000000 : Int64)), (.long (1000000000 : Int64)), (.long (10000000000 : Int64)), (.long (100000000000 : Int64)), (.long (0 : Int64)), (.long (0 : Int64)), (.long (0 : Int64)), (.long (0 : Int64)), (.long (0 : Int64)), (.long (0 : Int64)), (.long (0 : Int64))] (.long (0 : Int64)) := V37
            have N_39 := Fr.snoc X37 N_36 G_2
            show own_Go X37 (Q0 Z q0 q1 q2 p3 p4 p5 h0 n0) 2 41 188 #[oJ q0, oS, oJ q1, oS, oJ q2, oS, oI p3, oI p4, oI p5, oJ mn, oS, oJ mx, oS, oI ng, oI he, oI ee, oI mm, oI cr, oI cc, oU, oU, oU, oU, oU, oU, oU, oU, oU, oU, oU, oU, oU, oU, oU, oU, oU, oU, oU, oU, oU] [(.ref b1)]
            refine own_st (fun _ k => XS.dup X37.here hx rfl (hb hby at_188) rfl rfl k) ?_
            show own_Go X37 (Q0 Z q0 q1 q2 p3 p4 p5 h0 n0) 2 41 189 #[oJ q0, oS, oJ q1, oS, oJ q2, oS, oI p3, oI p4, oI p5, oJ mn, oS, oJ mx, oS, oI ng, oI he, oI ee, oI mm, oI cr, oI cc, oU, oU, oU, oU, oU, oU, oU, oU, oU, oU, oU, oU, oU, oU, oU, oU, oU, oU, oU, oU, oU] [(.ref b1), (.ref b1)]
            refine own_st (fun _ k => XS.bipush X37.here hx rfl (hb hby at_189) k) ?_
            show own_Go X37 (Q0 Z q0 q1 q2 p3 p4 p5 h0 n0) 2 41 191 #[oJ q0, oS, oJ q1, oS, oJ q2, oS, oI p3, oI p4, oI p5, oJ mn, oS, oJ mx, oS, oI ng, oI he, oI ee, oI mm, oI cr, oI cc, oU, oU, oU, oU, oU, oU, oU, oU, oU, oU, oU, oU, oU, oU, oU, oU, oU, oU, oU, oU, oU] [(.int (12 : Int32)), (.ref b1), (.ref b1)]
            refine own_st (fun t k => X37.ldc2Long hx hown (mvT hZ (hw _ (List.mem_of_getElem? (i := 13) rfl))) (g := (mkF m 191 #[oJ q0, oS, oJ q1, oS, oJ q2, oS, oI p3, oI p4, oI p5, oJ mn, oS, oJ mx, oS, oI ng, oI he, oI ee, oI mm, oI cr, oI cc, oU, oU, oU, oU, oU, oU, oU, oU, oU, oU, oU, oU, oU, oU, oU, oU, oU, oU, oU, oU, oU] [(.int (12 : Int32)), (.ref b1), (.ref b1)])) rfl (hb hby at_191) t k) ?_
            show own_Go X37 (Q0 Z q0 q1 q2 p3 p4 p5 h0 n0) 2 41 194 #[oJ q0, oS, oJ q1, oS, oJ q2, oS, oI p3, oI p4, oI p5, oJ mn, oS, oJ mx, oS, oI ng, oI he, oI ee, oI mm, oI cr, oI cc, oU, oU, oU, oU, oU, oU, oU, oU, oU, oU, oU, oU, oU, oU, oU, oU, oU, oU, oU, oU, oU] [(.long (1000000000000 : Int64)), (.int (12 : Int32)), (.ref b1), (.ref b1)]
            obtain ⟨T40, h40, X40, e40, W40, V40, st40⟩ := own_stJ X37 hx hZ e37 U37 (j := (12 : Int32)) ⟨by decide, by decide⟩ (Nat.le_of_ble_eq_true rfl) (g := (mkF m 194 #[oJ q0, oS, oJ q1, oS, oJ q2, oS, oI p3, oI p4, oI p5, oJ mn, oS, oJ mx, oS, oI ng, oI he, oI ee, oI mm, oI cr, oI cc, oU, oU, oU, oU, oU, oU, oU, oU, oU, oU, oU, oU, oU, oU, oU, oU, oU, oU, oU, oU, oU] [(.long (1000000000000 : Int64)), (.int (12 : Int32)), (.ref b1), (.ref b1)])) rfl rfl (hb hby at_194)
            refine own_st st40 ?_
            have Z_41 := Nat.le_trans Z_38 (Nat.le_of_eq W40.size.symm)
            have U40 : Arv Z h40 b1 k1 .long (19 : Int32) [(.long (1 : Int64)), (.long (10 : Int64)), (.long (100 : Int64)), (.long (1000 : Int64)), (.long (10000 : Int64)), (.long (100000 : Int64)), (.long (1000000 : Int64)), (.long (10000000 : Int64)), (.long (100000000 : Int64)), (.long (1000000000 : Int64)), (.long (10000000000 : Int64)), (.long (100000000000 : Int64)), (.long (1000000000000 : Int64)), (.long (0 : Int64)), (.long (0 : Int64)), (.long (0 : Int64)), (.long (0 : Int64)), (.long (0 : Int64)), (.long (0 : Int64))] (.long (0 : Int64)) := V40
            have N_42 := Fr.snoc X40 N_39 G_2
            show own_Go X40 (Q0 Z q0 q1 q2 p3 p4 p5 h0 n0) 2 41 195 #[oJ q0, oS, oJ q1, oS, oJ q2, oS, oI p3, oI p4, oI p5, oJ mn, oS, oJ mx, oS, oI ng, oI he, oI ee, oI mm, oI cr, oI cc, oU, oU, oU, oU, oU, oU, oU, oU, oU, oU, oU, oU, oU, oU, oU, oU, oU, oU, oU, oU, oU] [(.ref b1)]
            refine own_st (fun _ k => XS.dup X40.here hx rfl (hb hby at_195) rfl rfl k) ?_
            show own_Go X40 (Q0 Z q0 q1 q2 p3 p4 p5 h0 n0) 2 41 196 #[oJ q0, oS, oJ q1, oS, oJ q2, oS, oI p3, oI p4, oI p5, oJ mn, oS, oJ mx, oS, oI ng, oI he, oI ee, oI mm, oI cr, oI cc, oU, oU, oU, oU, oU, oU, oU, oU, oU, oU, oU, oU, oU, oU, oU, oU, oU, oU, oU, oU, oU] [(.ref b1), (.ref b1)]
            refine own_st (fun _ k => XS.bipush X40.here hx rfl (hb hby at_196) k) ?_
            show own_Go X40 (Q0 Z q0 q1 q2 p3 p4 p5 h0 n0) 2 41 198 #[oJ q0, oS, oJ q1, oS, oJ q2, oS, oI p3, oI p4, oI p5, oJ mn, oS, oJ mx, oS, oI ng, oI he, oI ee, oI mm, oI cr, oI cc, oU, oU, oU, oU, oU, oU, oU, oU, oU, oU, oU, oU, oU, oU, oU, oU, oU, oU, oU, oU, oU] [(.int (13 : Int32)), (.ref b1), (.ref b1)]
            refine own_st (fun t k => X40.ldc2Long hx hown (mvT hZ (hw _ (List.mem_of_getElem? (i := 14) rfl))) (g := (mkF m 198 #[oJ q0, oS, oJ q1, oS, oJ q2, oS, oI p3, oI p4, oI p5, oJ mn, oS, oJ mx, oS, oI ng, oI he, oI ee, oI mm, oI cr, oI cc, oU, oU, oU, oU, oU, oU, oU, oU, oU, oU, oU, oU, oU, oU, oU, oU, oU, oU, oU, oU, oU] [(.int (13 : Int32)), (.ref b1), (.ref b1)])) rfl (hb hby at_198) t k) ?_
            show own_Go X40 (Q0 Z q0 q1 q2 p3 p4 p5 h0 n0) 2 41 201 #[oJ q0, oS, oJ q1, oS, oJ q2, oS, oI p3, oI p4, oI p5, oJ mn, oS, oJ mx, oS, oI ng, oI he, oI ee, oI mm, oI cr, oI cc, oU, oU, oU, oU, oU, oU, oU, oU, oU, oU, oU, oU, oU, oU, oU, oU, oU, oU, oU, oU, oU] [(.long (10000000000000 : Int64)), (.int (13 : Int32)), (.ref b1), (.ref b1)]
            obtain ⟨T43, h43, X43, e43, W43, V43, st43⟩ := own_stJ X40 hx hZ e40 U40 (j := (13 : Int32)) ⟨by decide, by decide⟩ (Nat.le_of_ble_eq_true rfl) (g := (mkF m 201 #[oJ q0, oS, oJ q1, oS, oJ q2, oS, oI p3, oI p4, oI p5, oJ mn, oS, oJ mx, oS, oI ng, oI he, oI ee, oI mm, oI cr, oI cc, oU, oU, oU, oU, oU, oU, oU, oU, oU, oU, oU, oU, oU, oU, oU, oU, oU, oU, oU, oU, oU] [(.long (10000000000000 : Int64)), (.int (13 : Int32)), (.ref b1), (.ref b1)])) rfl rfl (hb hby at_201)
            refine own_st st43 ?_
            have Z_44 := Nat.le_trans Z_41 (Nat.le_of_eq W43.size.symm)
            have U43 : Arv Z h43 b1 k1 .long (19 : Int32) [(.long (1 : Int64)), (.long (10 : Int64)), (.long (100 : Int64)), (.long (1000 : Int64)), (.long (10000 : Int64)), (.long (100000 : Int64)), (.long (1000000 : Int64)), (.long (10000000 : Int64)), (.long (100000000 : Int64)), (.long (1000000000 : Int64)), (.long (10000000000 : Int64)), (.long (100000000000 : Int64)), (.long (1000000000000 : Int64)), (.long (10000000000000 : Int64)), (.long (0 : Int64)), (.long (0 : Int64)), (.long (0 : Int64)), (.long (0 : Int64)), (.long (0 : Int64))] (.long (0 : Int64)) := V43
            have N_45 := Fr.snoc X43 N_42 G_2
            show own_Go X43 (Q0 Z q0 q1 q2 p3 p4 p5 h0 n0) 2 41 202 #[oJ q0, oS, oJ q1, oS, oJ q2, oS, oI p3, oI p4, oI p5, oJ mn, oS, oJ mx, oS, oI ng, oI he, oI ee, oI mm, oI cr, oI cc, oU, oU, oU, oU, oU, oU, oU, oU, oU, oU, oU, oU, oU, oU, oU, oU, oU, oU, oU, oU, oU] [(.ref b1)]
            refine own_st (fun _ k => XS.dup X43.here hx rfl (hb hby at_202) rfl rfl k) ?_
            show own_Go X43 (Q0 Z q0 q1 q2 p3 p4 p5 h0 n0) 2 41 203 #[oJ q0, oS, oJ q1, oS, oJ q2, oS, oI p3, oI p4, oI p5, oJ mn, oS, oJ mx, oS, oI ng, oI he, oI ee, oI mm, oI cr, oI cc, oU, oU, oU, oU, oU, oU, oU, oU, oU, oU, oU, oU, oU, oU, oU, oU, oU, oU, oU, oU, oU] [(.ref b1), (.ref b1)]
            refine own_st (fun _ k => XS.bipush X43.here hx rfl (hb hby at_203) k) ?_
            show own_Go X43 (Q0 Z q0 q1 q2 p3 p4 p5 h0 n0) 2 41 205 #[oJ q0, oS, oJ q1, oS, oJ q2, oS, oI p3, oI p4, oI p5, oJ mn, oS, oJ mx, oS, oI ng, oI he, oI ee, oI mm, oI cr, oI cc, oU, oU, oU, oU, oU, oU, oU, oU, oU, oU, oU, oU, oU, oU, oU, oU, oU, oU, oU, oU, oU] [(.int (14 : Int32)), (.ref b1), (.ref b1)]
            refine own_st (fun t k => X43.ldc2Long hx hown (mvT hZ (hw _ (List.mem_of_getElem? (i := 15) rfl))) (g := (mkF m 205 #[oJ q0, oS, oJ q1, oS, oJ q2, oS, oI p3, oI p4, oI p5, oJ mn, oS, oJ mx, oS, oI ng, oI he, oI ee, oI mm, oI cr, oI cc, oU, oU, oU, oU, oU, oU, oU, oU, oU, oU, oU, oU, oU, oU, oU, oU, oU, oU, oU, oU, oU] [(.int (14 : Int32)), (.ref b1), (.ref b1)])) rfl (hb hby at_205) t k) ?_
            show own_Go X43 (Q0 Z q0 q1 q2 p3 p4 p5 h0 n0) 2 41 208 #[oJ q0, oS, oJ q1, oS, oJ q2, oS, oI p3, oI p4, oI p5, oJ mn, oS, oJ mx, oS, oI ng, oI he, oI ee, oI mm, oI cr, oI cc, oU, oU, oU, oU, oU, oU, oU, oU, oU, oU, oU, oU, oU, oU, oU, oU, oU, oU, oU, oU, oU] [(.long (100000000000000 : Int64)), (.int (14 : Int32)), (.ref b1), (.ref b1)]
            obtain ⟨T46, h46, X46, e46, W46, V46, st46⟩ := own_stJ X43 hx hZ e43 U43 (j := (14 : Int32)) ⟨by decide, by decide⟩ (Nat.le_of_ble_eq_true rfl) (g := (mkF m 208 #[oJ q0, oS, oJ q1, oS, oJ q2, oS, oI p3, oI p4, oI p5, oJ mn, oS, oJ mx, oS, oI ng, oI he, oI ee, oI mm, oI cr, oI cc, oU, oU, oU, oU, oU, oU, oU, oU, oU, oU, oU, oU, oU, oU, oU, oU, oU, oU, oU, oU, oU] [(.long (100000000000000 : Int64)), (.int (14 : Int32)), (.ref b1), (.ref b1)])) rfl rfl (hb hby at_208)
            refine own_st st46 ?_
            have Z_47 := Nat.le_trans Z_44 (Nat.le_of_eq W46.size.symm)
            have U46 : Arv Z h46 b1 k1 .long (19 : Int32) [(.long (1 : Int64)), (.long (10 : Int64)), (.long (100 : Int64)), (.long (1000 : Int64)), (.long (10000 : Int64)), (.long (100000 : Int64)), (.long (1000000 : Int64)), (.long (10000000 : Int64)), (.long (100000000 : Int64)), (.long (1000000000 : Int64)), (.long (10000000000 : Int64)), (.long (100000000000 : Int64)), (.long (1000000000000 : Int64)), (.long (10000000000000 : Int64)), (.long (100000000000000 : Int64)), (.long (0 : Int64)), (.long (0 : Int64)), (.long (0 : Int64)), (.long (0 : Int64))] (.long (0 : Int64)) := V46
            have N_48 := Fr.snoc X46 N_45 G_2
            show own_Go X46 (Q0 Z q0 q1 q2 p3 p4 p5 h0 n0) 2 41 209 #[oJ q0, oS, oJ q1, oS, oJ q2, oS, oI p3, oI p4, oI p5, oJ mn, oS, oJ mx, oS, oI ng, oI he, oI ee, oI mm, oI cr, oI cc, oU, oU, oU, oU, oU, oU, oU, oU, oU, oU, oU, oU, oU, oU, oU, oU, oU, oU, oU, oU, oU] [(.ref b1)]
            refine own_st (fun _ k => XS.dup X46.here hx rfl (hb hby at_209) rfl rfl k) ?_
            show own_Go X46 (Q0 Z q0 q1 q2 p3 p4 p5 h0 n0) 2 41 210 #[oJ q0, oS, oJ q1, oS, oJ q2, oS, oI p3, oI p4, oI p5, oJ mn, oS, oJ mx, oS, oI ng, oI he, oI ee, oI mm, oI cr, oI cc, oU, oU, oU, oU, oU, oU, oU, oU, oU, oU, oU, oU, oU, oU, oU, oU, oU, oU, oU, oU, oU] [(.ref b1), (.ref b1)]
            refine own_st (fun _ k => XS.bipush X46.here hx rfl (hb hby at_210) k) ?_
            show own_Go X46 (Q0 Z q0 q1 q2 p3 p4 p5 h0 n0) 2 41 212 #[oJ q0, oS, oJ q1, oS, oJ q2, oS, oI p3, oI p4, oI p5, oJ mn, oS, oJ mx, oS, oI ng, oI he, oI ee, oI mm, oI cr, oI cc, oU, oU, oU, oU, oU, oU, oU, oU, oU, oU, oU, oU, oU, oU, oU, oU, oU, oU, oU, oU, oU] [(.int (15 : Int32)), (.ref b1), (.ref b1)]
            refine own_st (fun t k => X46.ldc2Long hx hown (mvT hZ (hw _ (List.mem_of_getElem? (i := 16) rfl))) (g := (mkF m 212 #[oJ q0, oS, oJ q1, oS, oJ q2, oS, oI p3, oI p4, oI p5, oJ mn, oS, oJ mx, oS, oI ng, oI he, oI ee, oI mm, oI cr, oI cc, oU, oU, oU, oU, oU, oU, oU, oU, oU, oU, oU, oU, oU, oU, oU, oU, oU, oU, oU, oU, oU] [(.int (15 : Int32)), (.ref b1), (.ref b1)])) rfl (hb hby at_212) t k) ?_
            show own_Go X46 (Q0 Z q0 q1 q2 p3 p4 p5 h0 n0) 2 41 215 #[oJ q0, oS, oJ q1, oS, oJ q2, oS, oI p3, oI p4, oI p5, oJ mn, oS, oJ mx, oS, oI ng, oI he, oI ee, oI mm, oI cr, oI cc, oU, oU, oU, oU, oU, oU, oU, oU, oU, oU, oU, oU, oU, oU, oU, oU, oU, oU, oU, oU, oU] [(.long (1000000000000000 : Int64)), (.int (15 : Int32)), (.ref b1), (.ref b1)]
            obtain ⟨T49, h49, X49, e49, W49, V49, st49⟩ := own_stJ X46 hx hZ e46 U46 (j := (15 : Int32)) ⟨by decide, by decide⟩ (Nat.le_of_ble_eq_true rfl) (g := (mkF m 215 #[oJ q0, oS, oJ q1, oS, oJ q2, oS, oI p3, oI p4, oI p5, oJ mn, oS, oJ mx, oS, oI ng, oI he, oI ee, oI mm, oI cr, oI cc, oU, oU, oU, oU, oU, oU, oU, oU, oU, oU, oU, oU, oU, oU, oU, oU, oU, oU, oU, oU, oU] [(.long (1000000000000000 : Int64)), (.int (15 : Int32)), (.ref b1), (.ref b1)])) rfl rfl (hb hby at_215)
            refine own_st st49 ?_
            have Z_50 := Nat.le_trans Z_47 (Nat.le_of_eq W49.size.symm)
            have U49 : Arv Z h49 b1 k1 .long (19 : Int32) [(.long (1 : Int64)), (.long (10 : Int64)), (.long (100 : Int64)), (.long (1000 : Int64)), (.long (10000 : Int64)), (.long (100000 : Int64)), (.long (1000000 : Int64)), (.long (10000000 : Int64)), (.long (100000000 : Int64)), (.long (1000000000 : Int64)), (.long (10000000000 : Int64)), (.long (100000000000 : Int64)), (.long (1000000000000 : Int64)), (.long (10000000000000 : Int64)), (.long (100000000000000 : Int64)), (.long (1000000000000000 : Int64)), (.long (0 : Int64)), (.long (0 : Int64)), (.long (0 : Int64))] (.long (0 : Int64)) := V49
            have N_51 := Fr.snoc X49 N_48 G_2
            show own_Go X49 (Q0 Z q0 q1 q2 p3 p4 p5 h0 n0) 2 41 216 #[oJ q0, oS, oJ q1, oS, oJ q2, oS, oI p3, oI p4, oI p5, oJ mn, oS, oJ mx, oS, oI ng, oI he, oI ee, oI mm, oI cr, oI cc, oU, oU, oU, oU, oU, oU, oU, oU, oU, oU, oU, oU, oU, oU, oU, oU, oU, oU, oU, oU, oU] [(.ref b1)]
            refine own_st (fun _ k => XS.dup X49.here hx rfl (hb hby at_216) rfl rfl k) ?_
            show own_Go X49 (Q0 Z q0 q1 q2 p3 p4 p5 h0 n0) 2 41 217 #[oJ q0, oS, oJ q1, oS, oJ q2, oS, oI p3, oI p4, oI p5, oJ mn, oS, oJ mx, oS, oI ng, oI he, oI ee, oI mm, oI cr, oI cc, oU, oU, oU, oU, oU, oU, oU, oU, oU, oU, oU, oU, oU, oU, oU, oU, oU, oU, oU, oU, oU] [(.ref b1), (.ref b1)]
            refine own_st (fun _ k => XS.bipush X49.here hx rfl (hb hby at_217) k) ?_
            show own_Go X49 (Q0 Z q0 q1 q2 p3 p4 p5 h0 n0) 2 41 219 #[oJ q0, oS, oJ q1, oS, oJ q2, oS, oI p3, oI p4, oI p5, oJ mn, oS, oJ mx, oS, oI ng, oI he, oI ee, oI mm, oI cr, oI cc, oU, oU, oU, oU, oU, oU, oU, oU, oU, oU, oU, oU, oU, oU, oU, oU, oU, oU, oU, oU, oU] [(.int (16 : Int32)), (.ref b1), (.ref b1)]
            refine own_st (fun t k => X49.ldc2Long hx hown (mvT hZ (hw _ (List.mem_of_getElem? (i := 17) rfl))) (g := (mkF m 219 #[oJ q0, oS, oJ q1, oS, oJ q2, oS, oI p3, oI p4, oI p5, oJ mn, oS, oJ mx, oS, oI ng, oI he, oI ee, oI mm, oI cr, oI cc, oU, oU, oU, oU, oU, oU, oU, oU, oU, oU, oU, oU, oU, oU, oU, oU, oU, oU, oU, oU, oU] [(.int (16 : Int32)), (.ref b1), (.ref b1)])) rfl (hb hby at_219) t k) ?_
            show own_Go X49 (Q0 Z q0 q1 q2 p3 p4 p5 h0 n0) 2 41 222 #[oJ q0, oS, oJ q1, oS, oJ q2, oS, oI p3, oI p4, oI p5, oJ mn, oS, oJ mx, oS, oI ng, oI he, oI ee, oI mm, oI cr, oI cc, oU, oU, oU, oU, oU, oU, oU, oU, oU, oU, oU, oU, oU, oU, oU, oU, oU, oU, oU, oU, oU] [(.long (10000000000000000 : Int64)), (.int (16 : Int32)), (.ref b1), (.ref b1)]
            obtain ⟨T52, h52, X52, e52, W52, V52, st52⟩ := own_stJ X49 hx hZ e49 U49 (j := (16 : Int32)) ⟨by decide, by decide⟩ (Nat.le_of_ble_eq_true rfl) (g := (mkF m 222 #[oJ q0, oS, oJ q1, oS, oJ q2, oS, oI p3, oI p4, oI p5, oJ mn, oS, oJ mx, oS, oI ng, oI he, oI ee, oI mm, oI cr, oI cc, oU, oU, oU, oU, oU, oU, oU, oU, oU, oU, oU, oU, oU, oU, oU, oU, oU, oU, oU, oU, oU] [(.long (10000000000000000 : Int64)), (.int (16 : Int32)), (.ref b1), (.ref b1)])) rfl rfl (hb hby at_222)
            refine own_st st52 ?_
            have Z_53 := Nat.le_trans Z_50 (Nat.le_of_eq W52.size.symm)
            have U52 : Arv Z h52 b1 k1 .long (19 : Int32) [(.long (1 : Int64)), (.long (10 : Int64)), (.long (100 : Int64)), (.long (1000 : Int64)), (.long (10000 : Int64)), (.long (100000 : Int64)), (.long (1000000 : Int64)), (.long (10000000 : Int64)), (.long (100000000 : Int64)), (.long (1000000000 : Int64)), (.long (10000000000 : Int64)), (.long (100000000000 : Int64)), (.long (1000000000000 : Int64)), (.long (10000000000000 : Int64)), (.long (100000000000000 : Int64)), (.long (1000000000000000 : Int64)), (.long (10000000000000000 : Int64)), (.long (0 : Int64)), (.long (0 : Int64))] (.long (0 : Int64)) := V52
            have N_54 := Fr.snoc X52 N_51 G_2
            show own_Go X52 (Q0 Z q0 q1 q2 p3 p4 p5 h0 n0) 2 41 223 #[oJ q0, oS, oJ q1, oS, oJ q2, oS, oI p3, oI p4, oI p5, oJ mn, oS, oJ mx, oS, oI ng, oI he, oI ee, oI mm, oI cr, oI cc, oU, oU, oU, oU, oU, oU, oU, oU, oU, oU, oU, oU, oU, oU, oU, oU, oU, oU, oU, oU, oU] [(.ref b1)]
            refine own_st (fun _ k => XS.dup X52.here hx rfl (hb hby at_223) rfl rfl k) ?_
            show own_Go X52 (Q0 Z q0 q1 q2 p3 p4 p5 h0 n0) 2 41 224 #[oJ q0, oS, oJ q1, oS, oJ q2, oS, oI p3, oI p4, oI p5, oJ mn, oS, oJ mx, oS, oI ng, oI he, oI ee, oI mm, oI cr, oI cc, oU, oU, oU, oU, oU, oU, oU, oU, oU, oU, oU, oU, oU, oU, oU, oU, oU, oU, oU, oU, oU] [(.ref b1), (.ref b1)]
            refine own_st (fun _ k => XS.bipush X52.here hx rfl (hb hby at_224) k) ?_
            show own_Go X52 (Q0 Z q0 q1 q2 p3 p4 p5 h0 n0) 2 41 226 #[oJ q0, oS, oJ q1, oS, oJ q2, oS, oI p3, oI p4, oI p5, oJ mn, oS, oJ mx, oS, oI ng, oI he, oI ee, oI mm, oI cr, oI cc, oU, oU, oU, oU, oU, oU, oU, oU, oU, oU, oU, oU, oU, oU, oU, oU, oU, oU, oU, oU, oU] [(.int (17 : Int32)), (.ref b1), (.ref b1)]
            refine own_st (fun t k => X52.ldc2Long hx hown (mvT hZ (hw _ (List.mem_of_getElem? (i := 18) rfl))) (g := (mkF m 226 #[oJ q0, oS, oJ q1, oS, oJ q2, oS, oI p3, oI p4, oI p5, oJ mn, oS, oJ mx, oS, oI ng, oI he, oI ee, oI mm, oI cr, oI cc, oU, oU, oU, oU, oU, oU, oU, oU, oU, oU, oU, oU, oU, oU, oU, oU, oU, oU, oU, oU, oU] [(.int (17 : Int32)), (.ref b1), (.ref b1)])) rfl (hb hby at_226) t k) ?_
            show own_Go X52 (Q0 Z q0 q1 q2 p3 p4 p5 h0 n0) 2 41 229 #[oJ q0, oS, oJ q1, oS, oJ q2, oS, oI p3, oI p4, oI p5, oJ mn, oS, oJ mx, oS, oI ng, oI he, oI ee, oI mm, oI cr, oI cc, oU, oU, oU, oU, oU, oU, oU, oU, oU, oU, oU, oU, oU, oU, oU, oU, oU, oU, oU, oU, oU] [(.long (100000000000000000 : Int64)), (.int (17 : Int32)), (.ref b1), (.ref b1)]
            obtain ⟨T55, h55, X55, e55, W55, V55, st55⟩ := own_stJ X52 hx hZ e52 U52 (j := (17 : Int32)) ⟨by decide, by decide⟩ (Nat.le_of_ble_eq_true rfl) (g := (mkF m 229 #[oJ q0, oS, oJ q1, oS, oJ q2, oS, oI p3, oI p4, oI p5, oJ mn, oS, oJ mx, oS, oI ng, oI he, oI ee, oI mm, oI cr, oI cc, oU, oU, oU, oU, oU, oU, oU, oU, oU, oU, oU, oU, oU, oU, oU, oU, oU, oU, oU, oU, oU] [(.long (100000000000000000 : Int64)), (.int (17 : Int32)), (.ref b1), (.ref b1)])) rfl rfl (hb hby at_229)
            refine own_st st55 ?_
            have Z_56 := Nat.le_trans Z_53 (Nat.le_of_eq W55.size.symm)
            have U55 : Arv Z h55 b1 k1 .long (19 : Int32) [(.long (1 : Int64)), (.long (10 : Int64)), (.long (100 : Int64)), (.long (1000 : Int64)), (.long (10000 : Int64)), (.long (100000 : Int64)), (.long (1000000 : Int64)), (.long (10000000 : Int64)), (.long (100000000 : Int64)), (.long (1000000000 : Int64)), (.long (10000000000 : Int64)), (.long (100000000000 : Int64)), (.long (1000000000000 : Int64)), (.long (10000000000000 : Int64)), (.long (100000000000000 : Int64)), (.long (1000000000000000 : Int64)), (.long (10000000000000000 : Int64)), (.long (100000000000000000 : Int64)), (.long (0 : Int64))] (.long (0 : Int64)) := V55
            have N_57 := Fr.snoc X55 N_54 G_2
            show own_Go X55 (Q0 Z q0 q1 q2 p3 p4 p5 h0 n0) 2 41 230 #[oJ q0, oS, oJ q1, oS, oJ q2, oS, oI p3, oI p4, oI p5, oJ mn, oS, oJ mx, oS, oI ng, oI he, oI ee, oI mm, oI cr, oI cc, oU, oU, oU, oU, oU, oU, oU, oU, oU, oU, oU, oU, oU, oU, oU, oU, oU, oU, oU, oU, oU] [(.ref b1)]
            refine own_st (fun _ k => XS.dup X55.here hx rfl (hb hby at_230) rfl rfl k) ?_
            show own_Go X55 (Q0 Z q0 q1 q2 p3 p4 p5 h0 n0) 2 41 231 #[oJ q0, oS, oJ q1, oS, oJ q2, oS, oI p3, oI p4, oI p5, oJ mn, oS, oJ mx, oS, oI ng, oI he, oI ee, oI mm, oI cr, oI cc, oU, oU, oU, oU, oU, oU, oU, oU, oU, oU, oU, oU, oU, oU, oU, oU, oU, oU, oU, oU, oU] [(.ref b1), (.ref b1)]
            refine own_st (fun _ k => XS.bipush X55.here hx rfl (hb hby at_231) k) ?_
            show own_Go X55 (Q0 Z q0 q1 q2 p3 p4 p5 h0 n0) 2 41 233 #[oJ q0, oS, oJ q1, oS, oJ q2, oS, oI p3, oI p4, oI p5, oJ mn, oS, oJ mx, oS, oI ng, oI he, oI ee, oI mm, oI cr, oI cc, oU, oU, oU, oU, oU, oU, oU, oU, oU, oU, oU, oU, oU, oU, oU, oU, oU, oU, oU, oU, oU] [(.int (18 : Int32)), (.ref b1), (.ref b1)]
            refine own_st (fun t k => X55.ldc2Long hx hown (mvT hZ (hw _ (List.mem_of_getElem? (i := 19) rfl))) (g := (mkF m 233 #[oJ q0, oS, oJ q1, oS, oJ q2, oS, oI p3, oI p4, oI p5, oJ mn, oS, oJ mx, oS, oI ng, oI he, oI ee, oI mm, oI cr, oI cc, oU, oU, oU, oU, oU, oU, oU, oU, oU, oU, oU, oU, oU, oU, oU, oU, oU, oU, oU, oU, oU] [(.int (18 : Int32)), (.ref b1), (.ref b1)])) rfl (hb hby at_233) t k) ?_
            show own_Go X55 (Q0 Z q0 q1 q2 p3 p4 p5 h0 n0) 2 41 236 #[oJ q0, oS, oJ q1, oS, oJ q2, oS, oI p3, oI p4, oI p5, oJ mn, oS, oJ mx, oS, oI ng, oI he, oI ee, oI mm, oI cr, oI cc, oU, oU, oU, oU, oU, oU, oU, oU, oU, oU, oU, oU, oU, oU, oU, oU, oU, oU, oU, oU, oU] [(.long (1000000000000000000 : Int64)), (.int (18 : Int32)), (.ref b1), (.ref b1)]
            obtain ⟨T58, h58, X58, e58, W58, V58, st58⟩ := own_stJ X55 hx hZ e55 U55 (j := (18 : Int32)) ⟨by decide, by decide⟩ (Nat.le_of_ble_eq_true rfl) (g := (mkF m 236 #[oJ q0, oS, oJ q1, oS, oJ q2, oS, oI p3, oI p4, oI p5, oJ mn, oS, oJ mx, oS, oI ng, oI he, oI ee, oI mm, oI cr, oI cc, oU, oU, oU, oU, oU, oU, oU, oU, oU, oU, oU, oU, oU, oU, oU, oU, oU, oU, oU, oU, oU] [(.long (1000000000000000000 : Int64)), (.int (18 : Int32)), (.ref b1), (.ref b1)])) rfl rfl (hb hby at_236)
            refine own_st st58 ?_
            have Z_59 := Nat.le_trans Z_56 (Nat.le_of_eq W58.size.symm)
            have U58 : Arv Z h58 b1 k1 .long (19 : Int32) [(.long (1 : Int64)), (.long (10 : Int64)), (.long (100 : Int64)), (.long (1000 : Int64)), (.long (10000 : Int64)), (.long (100000 : Int64)), (.long (1000000 : Int64)), (.long (10000000 : Int64)), (.long (100000000 : Int64)), (.long (1000000000 : Int64)), (.long (10000000000 : Int64)), (.long (100000000000 : Int64)), (.long (1000000000000 : Int64)), (.long (10000000000000 : Int64)), (.long (100000000000000 : Int64)), (.long (1000000000000000 : Int64)), (.long (10000000000000000 : Int64)), (.long (100000000000000000 : Int64)), (.long (1000000000000000000 : Int64))] (.long (0 : Int64)) := V58
            have N_60 := Fr.snoc X58 N_57 G_2
            show own_Go X58 (Q0 Z q0 q1 q2 p3 p4 p5 h0 n0) 2 41 237 #[oJ q0, oS, oJ q1, oS, oJ q2, oS, oI p3, oI p4, oI p5, oJ mn, oS, oJ mx, oS, oI ng, oI he, oI ee, oI mm, oI cr, oI cc, oU, oU, oU, oU, oU, oU, oU, oU, oU, oU, oU, oU, oU, oU, oU, oU, oU, oU, oU, oU, oU] [(.ref b1)]
            refine own_st (fun _ k => XS.astore X58.here hx rfl (hb hby at_237) rfl rfl (l' := #[oJ q0, oS, oJ q1, oS, oJ q2, oS, oI p3, oI p4, oI p5, oJ mn, oS, oJ mx, oS, oI ng, oI he, oI ee, oI mm, oI cr, oI cc, oR b1, oU, oU, oU, oU, oU, oU, oU, oU, oU, oU, oU, oU, oU, oU, oU, oU, oU, oU, oU, oU]) rfl k) ?_
            show own_Go X58 (Q0 Z q0 q1 q2 p3 p4 p5 h0 n0) 2 41 239 #[oJ q0, oS, oJ q1, oS, oJ q2, oS, oI p3, oI p4, oI p5, oJ mn, oS, oJ mx, oS, oI ng, oI he, oI ee, oI mm, oI cr, oI cc, oR b1, oU, oU, oU, oU, oU, oU, oU, oU, oU, oU, oU, oU, oU, oU, oU, oU, oU, oU, oU, oU] []
            have J251 : ∀ (nn : Int64) (hnn : nn.toInt ≤ 0), own_Go X58 (Q0 Z q0 q1 q2 p3 p4 p5 h0 n0) 2 41 251 #[oJ q0, oS, oJ q1, oS, oJ q2, oS, oI p3, oI p4, oI p5, oJ mn, oS, oJ mx, oS, oI ng, oI he, oI ee, oI mm, oI cr, oI cc, oR b1, oU, oU, oU, oU, oU, oU, oU, oU, oU, oU, oU, oU, oU, oU, oU, oU, oU, oU, oU, oU] [(.long nn)] := by
              intro nn hnn
              refine own_st (fun _ k => XS.lstore X58.here hx rfl (hb hby at_251) rfl (l' := #[oJ q0, oS, oJ q1, oS, oJ q2, oS, oI p3, oI p4, oI p5, oJ mn, oS, oJ mx, oS, oI ng, oI he, oI ee, oI mm, oI cr, oI cc, oR b1, oJ nn, oS, oU, oU, oU, oU, oU, oU, oU, oU, oU, oU, oU, oU, oU, oU, oU, oU, oU, oU]) rfl k) ?_
              show own_Go X58 (Q0 Z q0 q1 q2 p3 p4 p5 h0 n0) 2 41 253 #[oJ q0, oS, oJ q1, oS, oJ q2, oS, oI p3, oI p4, oI p5, oJ mn, oS, oJ mx, oS, oI ng, oI he, oI ee, oI mm, oI cr, oI cc, oR b1, oJ nn, oS, oU, oU, oU, oU, oU, oU, oU, oU, oU, oU, oU, oU, oU, oU, oU, oU, oU, oU] []
              have J263 : ∀ (sv : Int32) (hsv : ng = sv), own_Go X58 (Q0 Z q0 q1 q2 p3 p4 p5 h0 n0) 2 41 263 #[oJ q0, oS, oJ q1, oS, oJ q2, oS, oI p3, oI p4, oI p5, oJ mn, oS, oJ mx, oS, oI ng, oI he, oI ee, oI mm, oI cr, oI cc, oR b1, oJ nn, oS, oU, oU, oU, oU, oU, oU, oU, oU, oU, oU, oU, oU, oU, oU, oU, oU, oU, oU] [(.int sv)] := by
                intro sv hsv
                subst hsv
                show own_Go X58 (Q0 Z q0 q1 q2 p3 p4 p5 h0 n0) 2 41 263 #[oJ q0, oS, oJ q1, oS, oJ q2, oS, oI p3, oI p4, oI p5, oJ mn, oS, oJ mx, oS, oI ng, oI he, oI ee, oI mm, oI cr, oI cc, oR b1, oJ nn, oS, oU, oU, oU, oU, oU, oU, oU, oU, oU, oU, oU, oU, oU, oU, oU, oU, oU, oU] [(.int ng)]
                refine own_st (fun _ k => XS.istore X58.here hx rfl (hb hby at_263) rfl (l' := #[oJ q0, oS, oJ q1, oS, oJ q2, oS, oI p3, oI p4, oI p5, oJ mn, oS, oJ mx, oS, oI ng, oI he, oI ee, oI mm, oI cr, oI cc, oR b1, oJ nn, oS, oI ng, oU, oU, oU, oU, oU, oU, oU, oU, oU, oU, oU, oU, oU, oU, oU, oU, oU]) rfl k) ?_
                show own_Go X58 (Q0 Z q0 q1 q2 p3 p4 p5 h0 n0) 2 41 265 #[oJ q0, oS, oJ q1, oS, oJ q2, oS, oI p3, oI p4, oI p5, oJ mn, oS, oJ mx, oS, oI ng, oI he, oI ee, oI mm, oI cr, oI cc, oR b1, oJ nn, oS, oI ng, oU, oU, oU, oU, oU, oU, oU, oU, oU, oU, oU, oU, oU, oU, oU, oU, oU] []
                refine own_st (fun _ k => XS.iload X58.here hx rfl (hb hby at_265) rfl k) ?_
                show own_Go X58 (Q0 Z q0 q1 q2 p3 p4 p5 h0 n0) 2 41 267 #[oJ q0, oS, oJ q1, oS, oJ q2, oS, oI p3, oI p4, oI p5, oJ mn, oS, oJ mx, oS, oI ng, oI he, oI ee, oI mm, oI cr, oI cc, oR b1, oJ nn, oS, oI ng, oU, oU, oU, oU, oU, oU, oU, oU, oU, oU, oU, oU, oU, oU, oU, oU, oU] [(.int ng)]
                have J277 : ∀ (hv : Int32) (hhv : he = hv), own_Go X58 (Q0 Z q0 q1 q2 p3 p4 p5 h0 n0) 2 41 277 #[oJ q0, oS, oJ q1, oS, oJ q2, oS, oI p3, oI p4, oI p5, oJ mn, oS, oJ mx, oS, oI ng, oI he, oI ee, oI mm, oI cr, oI cc, oR b1, oJ nn, oS, oI ng, oU, oU, oU, oU, oU, oU, oU, oU, oU, oU, oU, oU, oU, oU, oU, oU, oU] [(.int hv), (.int ng)] := by
                  intro hv hhv
                  subst hhv
                  show own_Go X58 (Q0 Z q0 q1 q2 p3 p4 p5 h0 n0) 2 41 277 #[oJ q0, oS, oJ q1, oS, oJ q2, oS, oI p3, oI p4, oI p5, oJ mn, oS, oJ mx, oS, oI ng, oI he, oI ee, oI mm, oI cr, oI cc, oR b1, oJ nn, oS, oI ng, oU, oU, oU, oU, oU, oU, oU, oU, oU, oU, oU, oU, oU, oU, oU, oU, oU] [(.int he), (.int ng)]
                  refine own_st (fun _ k => XS.iadd X58.here hx rfl (hb hby at_277) rfl k) ?_
                  show own_Go X58 (Q0 Z q0 q1 q2 p3 p4 p5 h0 n0) 2 41 278 #[oJ q0, oS, oJ q1, oS, oJ q2, oS, oI p3, oI p4, oI p5, oJ mn, oS, oJ mx, oS, oI ng, oI he, oI ee, oI mm, oI cr, oI cc, oR b1, oJ nn, oS, oI ng, oU, oU, oU, oU, oU, oU, oU, oU, oU, oU, oU, oU, oU, oU, oU, oU, oU] [(.int (ng + he))]
                  refine own_st (fun _ k => XS.istore X58.here hx rfl (hb hby at_278) rfl (l' := #[oJ q0, oS, oJ q1, oS, oJ q2, oS, oI p3, oI p4, oI p5, oJ mn, oS, oJ mx, oS, oI ng, oI he, oI ee, oI mm, oI cr, oI cc, oR b1, oJ nn, oS, oI ng, oI (ng + he), oU, oU, oU, oU, oU, oU, oU, oU, oU, oU, oU, oU, oU, oU, oU, oU]) rfl k) ?_
                  show own_Go X58 (Q0 Z q0 q1 q2 p3 p4 p5 h0 n0) 2 41 280 #[oJ q0, oS, oJ q1, oS, oJ q2, oS, oI p3, oI p4, oI p5, oJ mn, oS, oJ mx, oS, oI ng, oI he, oI ee, oI mm, oI cr, oI cc, oR b1, oJ nn, oS, oI ng, oI (ng + he), oU, oU, oU, oU, oU, oU, oU, oU, oU, oU, oU, oU, oU, oU, oU, oU] []
                  generalize hbs : (ng + he) = bs
                  show own_Go X58 (Q0 Z q0 q1 q2 p3 p4 p5 h0 n0) 2 41 280 #[oJ q0, oS, oJ q1, oS, oJ q2, oS, oI p3, oI p4, oI p5, oJ mn, oS, oJ mx, oS, oI ng, oI he, oI ee, oI mm, oI cr, oI cc, oR b1, oJ nn, oS, oI ng, oI bs, oU, oU, oU, oU, oU, oU, oU, oU, oU, oU, oU, oU, oU, oU, oU, oU] []
                  have hbv := own_bsv hng hhe hbs
                  have h01 := own_01 hng
                  have h02 := own_01 hhe
                  have hbB : 0 ≤ bs.toInt ∧ bs.toInt ≤ 2 := by omega
                  refine own_st (fun _ k => XS.iload X58.here hx rfl (hb hby at_280) rfl k) ?_
                  show own_Go X58 (Q0 Z q0 q1 q2 p3 p4 p5 h0 n0) 2 41 282 #[oJ q0, oS, oJ q1, oS, oJ q2, oS, oI p3, oI p4, oI p5, oJ mn, oS, oJ mx, oS, oI ng, oI he, oI ee, oI mm, oI cr, oI cc, oR b1, oJ nn, oS, oI ng, oI bs, oU, oU, oU, oU, oU, oU, oU, oU, oU, oU, oU, oU, oU, oU, oU, oU] [(.int bs)]
                  refine own_st (fun _ k => XS.iload X58.here hx rfl (hb hby at_282) rfl k) ?_
                  show own_Go X58 (Q0 Z q0 q1 q2 p3 p4 p5 h0 n0) 2 41 284 #[oJ q0, oS, oJ q1, oS, oJ q2, oS, oI p3, oI p4, oI p5, oJ mn, oS, oJ mx, oS, oI ng, oI he, oI ee, oI mm, oI cr, oI cc, oR b1, oJ nn, oS, oI ng, oI bs, oU, oU, oU, oU, oU, oU, oU, oU, oU, oU, oU, oU, oU, oU, oU, oU] [(.int mm), (.int bs)]
                  refine own_st (fun _ k => XS.iadd X58.here hx rfl (hb hby at_284) rfl k) ?_
                  show own_Go X58 (Q0 Z q0 q1 q2 p3 p4 p5 h0 n0) 2 41 285 #[oJ q0, oS, oJ q1, oS, oJ q2, oS, oI p3, oI p4, oI p5, oJ mn, oS, oJ mx, oS, oI ng, oI he, oI ee, oI mm, oI cr, oI cc, oR b1, oJ nn, oS, oI ng, oI bs, oU, oU, oU, oU, oU, oU, oU, oU, oU, oU, oU, oU, oU, oU, oU, oU] [(.int (bs + mm))]
                  refine own_st (fun _ k => XS.istore X58.here hx rfl (hb hby at_285) rfl (l' := #[oJ q0, oS, oJ q1, oS, oJ q2, oS, oI p3, oI p4, oI p5, oJ mn, oS, oJ mx, oS, oI ng, oI he, oI ee, oI mm, oI cr, oI cc, oR b1, oJ nn, oS, oI ng, oI bs, oI (bs + mm), oU, oU, oU, oU, oU, oU, oU, oU, oU, oU, oU, oU, oU, oU, oU]) rfl k) ?_
                  show own_Go X58 (Q0 Z q0 q1 q2 p3 p4 p5 h0 n0) 2 41 287 #[oJ q0, oS, oJ q1, oS, oJ q2, oS, oI p3, oI p4, oI p5, oJ mn, oS, oJ mx, oS, oI ng, oI he, oI ee, oI mm, oI cr, oI cc, oR b1, oJ nn, oS, oI ng, oI bs, oI (bs + mm), oU, oU, oU, oU, oU, oU, oU, oU, oU, oU, oU, oU, oU, oU, oU] []
                  generalize hln : (bs + mm) = ln
                  show own_Go X58 (Q0 Z q0 q1 q2 p3 p4 p5 h0 n0) 2 41 287 #[oJ q0, oS, oJ q1, oS, oJ q2, oS, oI p3, oI p4, oI p5, oJ mn, oS, oJ mx, oS, oI ng, oI he, oI ee, oI mm, oI cr, oI cc, oR b1, oJ nn, oS, oI ng, oI bs, oI ln, oU, oU, oU, oU, oU, oU, oU, oU, oU, oU, oU, oU, oU, oU, oU] []
                  have hlv := own_lnv hbB hmB hln
                  have hL22 : ln.toInt ≤ 22 := by omega
                  refine own_st (fun _ k => XS.bipush X58.here hx rfl (hb hby at_287) k) ?_
                  show own_Go X58 (Q0 Z q0 q1 q2 p3 p4 p5 h0 n0) 2 41 289 #[oJ q0, oS, oJ q1, oS, oJ q2, oS, oI p3, oI p4, oI p5, oJ mn, oS, oJ mx, oS, oI ng, oI he, oI ee, oI mm, oI cr, oI cc, oR b1, oJ nn, oS, oI ng, oI bs, oI ln, oU, oU, oU, oU, oU, oU, oU, oU, oU, oU, oU, oU, oU, oU, oU] [(.int (22 : Int32))]
                  obtain ⟨T61, h61, k61, X61, e61, E61, A61, st61⟩ := newP X58 hx hZ (hw _ (List.mem_of_getElem? (i := 20) rfl)) e58 (g := (mkF m 289 #[oJ q0, oS, oJ q1, oS, oJ q2, oS, oI p3, oI p4, oI p5, oJ mn, oS, oJ mx, oS, oI ng, oI he, oI ee, oI mm, oI cr, oI cc, oR b1, oJ nn, oS, oI ng, oI bs, oI ln, oU, oU, oU, oU, oU, oU, oU, oU, oU, oU, oU, oU, oU, oU, oU] [(.int (22 : Int32))])) rfl (hb hby at_289) rfl (by decide) (cap := 22) (by decide) (by decide) (by decide) (by decide)
                  obtain ⟨b61, g61⟩ : ∃ z, z = h58.size := ⟨_, rfl⟩
                  rw [← g61] at A61 st61
                  refine own_st st61 ?_
                  have ne_62 := Nat.ne_of_lt (Nat.lt_of_lt_of_le U58.lt (Nat.le_of_eq g61.symm))
                  have G_63 := Nat.le_trans Z_59 (Nat.le_of_eq g61.symm)
                  have f_64 := U58.ext E61
                  have Z_65 := Nat.le_trans Z_59 E61.1
                  have V61 : Arv Z h61 b61 k61 .byte (22 : Int32) [(.int (0 : Int32)), (.int (0 : Int32)), (.int (0 : Int32)), (.int (0 : Int32)), (.int (0 : Int32)), (.int (0 : Int32)), (.int (0 : Int32)), (.int (0 : Int32)), (.int (0 : Int32)), (.int (0 : Int32)), (.int (0 : Int32)), (.int (0 : Int32)), (.int (0 : Int32)), (.int (0 : Int32)), (.int (0 : Int32)), (.int (0 : Int32)), (.int (0 : Int32)), (.int (0 : Int32)), (.int (0 : Int32)), (.int (0 : Int32)), (.int (0 : Int32)), (.int (0 : Int32))] (.int (0 : Int32)) := (Arv.new A61 (by decide)).pad (pad_rep [] (.int (0 : Int32)) 22)
                  show own_Go X61 (Q0 Z q0 q1 q2 p3 p4 p5 h0 n0) 2 41 291 #[oJ q0, oS, oJ q1, oS, oJ q2, oS, oI p3, oI p4, oI p5, oJ mn, oS, oJ mx, oS, oI ng, oI he, oI ee, oI mm, oI cr, oI cc, oR b1, oJ nn, oS, oI ng, oI bs, oI ln, oU, oU, oU, oU, oU, oU, oU, oU, oU, oU, oU, oU, oU, oU, oU] [(.ref b61)]
                  refine own_st (fun _ k => XS.astore X61.here hx rfl (hb hby at_291) rfl rfl (l' := #[oJ q0, oS, oJ q1, oS, oJ q2, oS, oI p3, oI p4, oI p5, oJ mn, oS, oJ mx, oS, oI ng, oI he, oI ee, oI mm, oI cr, oI cc, oR b1, oJ nn, oS, oI ng, oI bs, oI ln, oR b61, oU, oU, oU, oU, oU, oU, oU, oU, oU, oU, oU, oU, oU, oU]) rfl k) ?_
                  show own_Go X61 (Q0 Z q0 q1 q2 p3 p4 p5 h0 n0) 2 41 293 #[oJ q0, oS, oJ q1, oS, oJ q2, oS, oI p3, oI p4, oI p5, oJ mn, oS, oJ mx, oS, oI ng, oI he, oI ee, oI mm, oI cr, oI cc, oR b1, oJ nn, oS, oI ng, oI bs, oI ln, oR b61, oU, oU, oU, oU, oU, oU, oU, oU, oU, oU, oU, oU, oU, oU] []
                  have J304 : ∀ (vv : List Value) (hvv : vv = (own_w0 ng)) {T : State} {locs : List Loc} {h : Heap} (X : Stand p l e room_1 s m #[(.long q0), (.long q1), (.long q2), (.int p3), (.int p4), (.int p5)] below meth c T locs 2 41) (_ : T.heap = h) (_ : Fr n0 locs) (_ : n0 ≤ h.size) (_ : Arv Z h b61 k61 .byte (22 : Int32) vv (.int (0 : Int32))) (_ : Arv Z h b1 k1 .long (19 : Int32) [(.long (1 : Int64)), (.long (10 : Int64)), (.long (100 : Int64)), (.long (1000 : Int64)), (.long (10000 : Int64)), (.long (100000 : Int64)), (.long (1000000 : Int64)), (.long (10000000 : Int64)), (.long (100000000 : Int64)), (.long (1000000000 : Int64)), (.long (10000000000 : Int64)), (.long (100000000000 : Int64)), (.long (1000000000000 : Int64)), (.long (10000000000000 : Int64)), (.long (100000000000000 : Int64)), (.long (1000000000000000 : Int64)), (.long (10000000000000000 : Int64)), (.long (100000000000000000 : Int64)), (.long (1000000000000000000 : Int64))] (.long (0 : Int64))), own_Go X (Q0 Z q0 q1 q2 p3 p4 p5 h0 n0) 2 41 304 #[oJ q0, oS, oJ q1, oS, oJ q2, oS, oI p3, oI p4, oI p5, oJ mn, oS, oJ mx, oS, oI ng, oI he, oI ee, oI mm, oI cr, oI cc, oR b1, oJ nn, oS, oI ng, oI bs, oI ln, oR b61, oU, oU, oU, oU, oU, oU, oU, oU, oU, oU, oU, oU, oU, oU] [] := by
                    intro vv hvv T66 L66 h66 X66 e66 N66 Z66 f66_0 f66_1
                    subst hvv
                    show own_Go X66 (Q0 Z q0 q1 q2 p3 p4 p5 h0 n0) 2 41 304 #[oJ q0, oS, oJ q1, oS, oJ q2, oS, oI p3, oI p4, oI p5, oJ mn, oS, oJ mx, oS, oI ng, oI he, oI ee, oI mm, oI cr, oI cc, oR b1, oJ nn, oS, oI ng, oI bs, oI ln, oR b61, oU, oU, oU, oU, oU, oU, oU, oU, oU, oU, oU, oU, oU, oU] []
                    have J320 : ∀ (vv : List Value) (hvv : vv = (own_w1 ng he ee)) {T : State} {locs : List Loc} {h : Heap} (X : Stand p l e room_1 s m #[(.long q0), (.long q1), (.long q2), (.int p3), (.int p4), (.int p5)] below meth c T locs 2 41) (_ : T.heap = h) (_ : Fr n0 locs) (_ : n0 ≤ h.size) (_ : Arv Z h b61 k61 .byte (22 : Int32) vv (.int (0 : Int32))) (_ : Arv Z h b1 k1 .long (19 : Int32) [(.long (1 : Int64)), (.long (10 : Int64)), (.long (100 : Int64)), (.long (1000 : Int64)), (.long (10000 : Int64)), (.long (100000 : Int64)), (.long (1000000 : Int64)), (.long (10000000 : Int64)), (.long (100000000 : Int64)), (.long (1000000000 : Int64)), (.long (10000000000 : Int64)), (.long (100000000000 : Int64)), (.long (1000000000000 : Int64)), (.long (10000000000000 : Int64)), (.long (100000000000000 : Int64)), (.long (1000000000000000 : Int64)), (.long (10000000000000000 : Int64)), (.long (100000000000000000 : Int64)), (.long (1000000000000000000 : Int64))] (.long (0 : Int64))), own_Go X (Q0 Z q0 q1 q2 p3 p4 p5 h0 n0) 2 41 320 #[oJ q0, oS, oJ q1, oS, oJ q2, oS, oI p3, oI p4, oI p5, oJ mn, oS, oJ mx, oS, oI ng, oI he, oI ee, oI mm, oI cr, oI cc, oR b1, oJ nn, oS, oI ng, oI bs, oI ln, oR b61, oU, oU, oU, oU, oU, oU, oU, oU, oU, oU, oU, oU, oU, oU] [] := by
                      intro vv hvv T67 L67 h67 X67 e67 N67 Z67 f67_0 f67_1
                      subst hvv
                      show own_Go X67 (Q0 Z q0 q1 q2 p3 p4 p5 h0 n0) 2 41 320 #[oJ q0, oS, oJ q1, oS, oJ q2, oS, oI p3, oI p4, oI p5, oJ mn, oS, oJ mx, oS, oI ng, oI he, oI ee, oI mm, oI cr, oI cc, oR b1, oJ nn, oS, oI ng, oI bs, oI ln, oR b61, oU, oU, oU, oU, oU, oU, oU, oU, oU, oU, oU, oU, oU, oU] []
                      refine own_st (fun _ k => XS.iload X67.here hx rfl (hb hby at_320) rfl k) ?_
                      show own_Go X67 (Q0 Z q0 q1 q2 p3 p4 p5 h0 n0) 2 41 322 #[oJ q0, oS, oJ q1, oS, oJ q2, oS, oI p3, oI p4, oI p5, oJ mn, oS, oJ mx, oS, oI ng, oI he, oI ee, oI mm, oI cr, oI cc, oR b1, oJ nn, oS, oI ng, oI bs, oI ln, oR b61, oU, oU, oU, oU, oU, oU, oU, oU, oU, oU, oU, oU, oU, oU] [(.int bs)]
                      refine own_st (fun _ k => XS.iload X67.here hx rfl (hb hby at_322) rfl k) ?_
                      show own_Go X67 (Q0 Z q0 q1 q2 p3 p4 p5 h0 n0) 2 41 324 #[oJ q0, oS, oJ q1, oS, oJ q2, oS, oI p3, oI p4, oI p5, oJ mn, oS, oJ mx, oS, oI ng, oI he, oI ee, oI mm, oI cr, oI cc, oR b1, oJ nn, oS, oI ng, oI bs, oI ln, oR b61, oU, oU, oU, oU, oU, oU, oU, oU, oU, oU, oU, oU, oU, oU] [(.int mm), (.int bs)]
                      refine own_st (fun _ k => XS.iadd X67.here hx rfl (hb hby at_324) rfl k) ?_
                      show own_Go X67 (Q0 Z q0 q1 q2 p3 p4 p5 h0 n0) 2 41 325 #[oJ q0, oS, oJ q1, oS, oJ q2, oS, oI p3, oI p4, oI p5, oJ mn, oS, oJ mx, oS, oI ng, oI he, oI ee, oI mm, oI cr, oI cc, oR b1, oJ nn, oS, oI ng, oI bs, oI ln, oR b61, oU, oU, oU, oU, oU, oU, oU, oU, oU, oU, oU, oU, oU, oU] [(.int (bs + mm))]
                      refine own_st (fun _ k => XS.iconst X67.here hx rfl (hb hby at_325) k) ?_
                      show own_Go X67 (Q0 Z q0 q1 q2 p3 p4 p5 h0 n0) 2 41 326 #[oJ q0, oS, oJ q1, oS, oJ q2, oS, oI p3, oI p4, oI p5, oJ mn, oS, oJ mx, oS, oI ng, oI he, oI ee, oI mm, oI cr, oI cc, oR b1, oJ nn, oS, oI ng, oI bs, oI ln, oR b61, oU, oU, oU, oU, oU, oU, oU, oU, oU, oU, oU, oU, oU, oU] [(.int (1 : Int32)), (.int (bs + mm))]
                      refine own_st (fun _ k => XS.isub X67.here hx rfl (hb hby at_326) rfl k) ?_
                      show own_Go X67 (Q0 Z q0 q1 q2 p3 p4 p5 h0 n0) 2 41 327 #[oJ q0, oS, oJ q1, oS, oJ q2, oS, oI p3, oI p4, oI p5, oJ mn, oS, oJ mx, oS, oI ng, oI he, oI ee, oI mm, oI cr, oI cc, oR b1, oJ nn, oS, oI ng, oI bs, oI ln, oR b61, oU, oU, oU, oU, oU, oU, oU, oU, oU, oU, oU, oU, oU, oU] [(.int ((bs + mm) - (1 : Int32)))]
                      refine own_st (fun _ k => XS.istore X67.here hx rfl (hb hby at_327) rfl (l' := #[oJ q0, oS, oJ q1, oS, oJ q2, oS, oI p3, oI p4, oI p5, oJ mn, oS, oJ mx, oS, oI ng, oI he, oI ee, oI mm, oI cr, oI cc, oR b1, oJ nn, oS, oI ng, oI bs, oI ln, oR b61, oI ((bs + mm) - (1 : Int32)), oU, oU, oU, oU, oU, oU, oU, oU, oU, oU, oU, oU, oU]) rfl k) ?_
                      show own_Go X67 (Q0 Z q0 q1 q2 p3 p4 p5 h0 n0) 2 41 329 #[oJ q0, oS, oJ q1, oS, oJ q2, oS, oI p3, oI p4, oI p5, oJ mn, oS, oJ mx, oS, oI ng, oI he, oI ee, oI mm, oI cr, oI cc, oR b1, oJ nn, oS, oI ng, oI bs, oI ln, oR b61, oI ((bs + mm) - (1 : Int32)), oU, oU, oU, oU, oU, oU, oU, oU, oU, oU, oU, oU, oU] []
                      generalize hla : ((bs + mm) - (1 : Int32)) = la
                      show own_Go X67 (Q0 Z q0 q1 q2 p3 p4 p5 h0 n0) 2 41 329 #[oJ q0, oS, oJ q1, oS, oJ q2, oS, oI p3, oI p4, oI p5, oJ mn, oS, oJ mx, oS, oI ng, oI he, oI ee, oI mm, oI cr, oI cc, oR b1, oJ nn, oS, oI ng, oI bs, oI ln, oR b61, oI la, oU, oU, oU, oU, oU, oU, oU, oU, oU, oU, oU, oU, oU] []
                      have hla' := own_lav hbB hmB hla
                      have V0 : Arv Z h67 b61 k61 .byte (22 : Int32) (own_puts (own_w1 ng he ee) la mm nn 0) (.int (0 : Int32)) := f67_0
                      refine own_st (fun _ k => XS.aload X67.here hx rfl (hb hby at_329) rfl rfl k) ?_
                      show own_Go X67 (Q0 Z q0 q1 q2 p3 p4 p5 h0 n0) 2 41 331 #[oJ q0, oS, oJ q1, oS, oJ q2, oS, oI p3, oI p4, oI p5, oJ mn, oS, oJ mx, oS, oI ng, oI he, oI ee, oI mm, oI cr, oI cc, oR b1, oJ nn, oS, oI ng, oI bs, oI ln, oR b61, oI la, oU, oU, oU, oU, oU, oU, oU, oU, oU, oU, oU, oU, oU] [(.ref b61)]
                      refine own_st (fun _ k => XS.iload X67.here hx rfl (hb hby at_331) rfl k) ?_
                      show own_Go X67 (Q0 Z q0 q1 q2 p3 p4 p5 h0 n0) 2 41 333 #[oJ q0, oS, oJ q1, oS, oJ q2, oS, oI p3, oI p4, oI p5, oJ mn, oS, oJ mx, oS, oI ng, oI he, oI ee, oI mm, oI cr, oI cc, oR b1, oJ nn, oS, oI ng, oI bs, oI ln, oR b61, oI la, oU, oU, oU, oU, oU, oU, oU, oU, oU, oU, oU, oU, oU] [(.int la), (.ref b61)]
                      refine own_st (fun _ k => XS.iconst X67.here hx rfl (hb hby at_333) k) ?_
                      show own_Go X67 (Q0 Z q0 q1 q2 p3 p4 p5 h0 n0) 2 41 334 #[oJ q0, oS, oJ q1, oS, oJ q2, oS, oI p3, oI p4, oI p5, oJ mn, oS, oJ mx, oS, oI ng, oI he, oI ee, oI mm, oI cr, oI cc, oR b1, oJ nn, oS, oI ng, oI bs, oI ln, oR b61, oI la, oU, oU, oU, oU, oU, oU, oU, oU, oU, oU, oU, oU, oU] [(.int (0 : Int32)), (.int la), (.ref b61)]
                      refine own_st (fun _ k => XS.iload X67.here hx rfl (hb hby at_334) rfl k) ?_
                      show own_Go X67 (Q0 Z q0 q1 q2 p3 p4 p5 h0 n0) 2 41 336 #[oJ q0, oS, oJ q1, oS, oJ q2, oS, oI p3, oI p4, oI p5, oJ mn, oS, oJ mx, oS, oI ng, oI he, oI ee, oI mm, oI cr, oI cc, oR b1, oJ nn, oS, oI ng, oI bs, oI ln, oR b61, oI la, oU, oU, oU, oU, oU, oU, oU, oU, oU, oU, oU, oU, oU] [(.int mm), (.int (0 : Int32)), (.int la), (.ref b61)]
                      refine own_st (fun _ k => XS.lload X67.here hx rfl (hb hby at_336) rfl k) ?_
                      show own_Go X67 (Q0 Z q0 q1 q2 p3 p4 p5 h0 n0) 2 41 338 #[oJ q0, oS, oJ q1, oS, oJ q2, oS, oI p3, oI p4, oI p5, oJ mn, oS, oJ mx, oS, oI ng, oI he, oI ee, oI mm, oI cr, oI cc, oR b1, oJ nn, oS, oI ng, oI bs, oI ln, oR b61, oI la, oU, oU, oU, oU, oU, oU, oU, oU, oU, oU, oU, oU, oU] [(.long nn), (.int mm), (.int (0 : Int32)), (.int la), (.ref b61)]
                      refine own_st (fun _ k => XS.aload X67.here hx rfl (hb hby at_338) rfl rfl k) ?_
                      show own_Go X67 (Q0 Z q0 q1 q2 p3 p4 p5 h0 n0) 2 41 340 #[oJ q0, oS, oJ q1, oS, oJ q2, oS, oI p3, oI p4, oI p5, oJ mn, oS, oJ mx, oS, oI ng, oI he, oI ee, oI mm, oI cr, oI cc, oR b1, oJ nn, oS, oI ng, oI bs, oI ln, oR b61, oI la, oU, oU, oU, oU, oU, oU, oU, oU, oU, oU, oU, oU, oU] [(.ref b1), (.long nn), (.int mm), (.int (0 : Int32)), (.int la), (.ref b61)]
                      refine own_callS (W := 0) X67 hx hZ hown (hw _ (List.mem_of_getElem? (i := 21) rfl)) (hw _ (List.mem_of_getElem? (i := 22) rfl)) (hw _ (List.mem_of_getElem? (i := 23) rfl)) (hw _ (List.mem_of_getElem? (i := 24) rfl)) (by decide) (rm1 l Z a0 hw [] b61 la (0 : Int32) mm nn b1 k61 k1 (own_puts (own_w1 ng he ee) la mm nn 0) [(.long (1 : Int64)), (.long (10 : Int64)), (.long (100 : Int64)), (.long (1000 : Int64)), (.long (10000 : Int64)), (.long (100000 : Int64)), (.long (1000000 : Int64)), (.long (10000000 : Int64)), (.long (100000000 : Int64)), (.long (1000000000 : Int64)), (.long (10000000000 : Int64)), (.long (100000000000 : Int64)), (.long (1000000000000 : Int64)), (.long (10000000000000 : Int64)), (.long (100000000000000 : Int64)), (.long (1000000000000000 : Int64)), (.long (10000000000000000 : Int64)), (.long (100000000000000000 : Int64)), (.long (1000000000000000000 : Int64))] (1 : Int64) h67 n0 Z67 V0 (own_len22 (own_l1 ng he ee) 0) G_63 f67_1 ne_62 ⟨by decide, by decide⟩ rfl (by decide) (own_at0 (own_len22 (own_l1 ng he ee) 0) hbB hmB hla')) (by decide) (by decide) (by rw [hml]; rfl) [(.ref b61), (.int la), (.int (0 : Int32)), (.int mm), (.long nn), (.ref b1)] [] (lenOf pd_0_0 rfl) rfl rfl (Nat.le_of_ble_eq_true rfl) (hb hby at_340) e67 (by decide) (by decide) ?_
                      rintro _ T68 L68 X68 ⟨rfl, N68q, K68q, V68q⟩
                      have N_69 := Fr.app N67 N68q
                      have f_70 := f67_1.keep K68q (ninS ne_62 nin0)
                      have Z_71 := Nat.le_trans Z67 K68q.1
                      have V68 : Arv Z T68.heap b61 k61 .byte (22 : Int32) (own_puts (own_w1 ng he ee) la mm nn 1) (.int (0 : Int32)) := by show Arv _ _ _ _ _ _ (own_put _ (la - Int32.ofNat 0) _ _ _ _) _; rw [show la - Int32.ofNat 0 = la from Int32.sub_zero la]; exact V68q
                      show own_Go X68 (Q0 Z q0 q1 q2 p3 p4 p5 h0 n0) 2 41 343 #[oJ q0, oS, oJ q1, oS, oJ q2, oS, oI p3, oI p4, oI p5, oJ mn, oS, oJ mx, oS, oI ng, oI he, oI ee, oI mm, oI cr, oI cc, oR b1, oJ nn, oS, oI ng, oI bs, oI ln, oR b61, oI la, oU, oU, oU, oU, oU, oU, oU, oU, oU, oU, oU, oU, oU] []
                      refine own_st (fun _ k => XS.aload X68.here hx rfl (hb hby at_343) rfl rfl k) ?_
                      show own_Go X68 (Q0 Z q0 q1 q2 p3 p4 p5 h0 n0) 2 41 345 #[oJ q0, oS, oJ q1, oS, oJ q2, oS, oI p3, oI p4, oI p5, oJ mn, oS, oJ mx, oS, oI ng, oI he, oI ee, oI mm, oI cr, oI cc, oR b1, oJ nn, oS, oI ng, oI bs, oI ln, oR b61, oI la, oU, oU, oU, oU, oU, oU, oU, oU, oU, oU, oU, oU, oU] [(.ref b61)]
                      refine own_st (fun _ k => XS.iload X68.here hx rfl (hb hby at_345) rfl k) ?_
                      show own_Go X68 (Q0 Z q0 q1 q2 p3 p4 p5 h0 n0) 2 41 347 #[oJ q0, oS, oJ q1, oS, oJ q2, oS, oI p3, oI p4, oI p5, oJ mn, oS, oJ mx, oS, oI ng, oI he, oI ee, oI mm, oI cr, oI cc, oR b1, oJ nn, oS, oI ng, oI bs, oI ln, oR b61, oI la, oU, oU, oU, oU, oU, oU, oU, oU, oU, oU, oU, oU, oU] [(.int la), (.ref b61)]
                      refine own_st (fun _ k => XS.iconst X68.here hx rfl (hb hby at_347) k) ?_
                      show own_Go X68 (Q0 Z q0 q1 q2 p3 p4 p5 h0 n0) 2 41 348 #[oJ q0, oS, oJ q1, oS, oJ q2, oS, oI p3, oI p4, oI p5, oJ mn, oS, oJ mx, oS, oI ng, oI he, oI ee, oI mm, oI cr, oI cc, oR b1, oJ nn, oS, oI ng, oI bs, oI ln, oR b61, oI la, oU, oU, oU, oU, oU, oU, oU, oU, oU, oU, oU, oU, oU] [(.int (1 : Int32)), (.int la), (.ref b61)]
                      refine own_st (fun _ k => XS.isub X68.here hx rfl (hb hby at_348) rfl k) ?_
                      show own_Go X68 (Q0 Z q0 q1 q2 p3 p4 p5 h0 n0) 2 41 349 #[oJ q0, oS, oJ q1, oS, oJ q2, oS, oI p3, oI p4, oI p5, oJ mn, oS, oJ mx, oS, oI ng, oI he, oI ee, oI mm, oI cr, oI cc, oR b1, oJ nn, oS, oI ng, oI bs, oI ln, oR b61, oI la, oU, oU, oU, oU, oU, oU, oU, oU, oU, oU, oU, oU, oU] [(.int (la - (1 : Int32))), (.ref b61)]
                      refine own_st (fun _ k => XS.iconst X68.here hx rfl (hb hby at_349) k) ?_
                      show own_Go X68 (Q0 Z q0 q1 q2 p3 p4 p5 h0 n0) 2 41 350 #[oJ q0, oS, oJ q1, oS, oJ q2, oS, oI p3, oI p4, oI p5, oJ mn, oS, oJ mx, oS, oI ng, oI he, oI ee, oI mm, oI cr, oI cc, oR b1, oJ nn, oS, oI ng, oI bs, oI ln, oR b61, oI la, oU, oU, oU, oU, oU, oU, oU, oU, oU, oU, oU, oU, oU] [(.int (1 : Int32)), (.int (la - (1 : Int32))), (.ref b61)]
                      refine own_st (fun _ k => XS.iload X68.here hx rfl (hb hby at_350) rfl k) ?_
                      show own_Go X68 (Q0 Z q0 q1 q2 p3 p4 p5 h0 n0) 2 41 352 #[oJ q0, oS, oJ q1, oS, oJ q2, oS, oI p3, oI p4, oI p5, oJ mn, oS, oJ mx, oS, oI ng, oI he, oI ee, oI mm, oI cr, oI cc, oR b1, oJ nn, oS, oI ng, oI bs, oI ln, oR b61, oI la, oU, oU, oU, oU, oU, oU, oU, oU, oU, oU, oU, oU, oU] [(.int mm), (.int (1 : Int32)), (.int (la - (1 : Int32))), (.ref b61)]
                      refine own_st (fun _ k => XS.lload X68.here hx rfl (hb hby at_352) rfl k) ?_
                      show own_Go X68 (Q0 Z q0 q1 q2 p3 p4 p5 h0 n0) 2 41 354 #[oJ q0, oS, oJ q1, oS, oJ q2, oS, oI p3, oI p4, oI p5, oJ mn, oS, oJ mx, oS, oI ng, oI he, oI ee, oI mm, oI cr, oI cc, oR b1, oJ nn, oS, oI ng, oI bs, oI ln, oR b61, oI la, oU, oU, oU, oU, oU, oU, oU, oU, oU, oU, oU, oU, oU] [(.long nn), (.int mm), (.int (1 : Int32)), (.int (la - (1 : Int32))), (.ref b61)]
                      refine own_st (fun _ k => XS.aload X68.here hx rfl (hb hby at_354) rfl rfl k) ?_
                      show own_Go X68 (Q0 Z q0 q1 q2 p3 p4 p5 h0 n0) 2 41 356 #[oJ q0, oS, oJ q1, oS, oJ q2, oS, oI p3, oI p4, oI p5, oJ mn, oS, oJ mx, oS, oI ng, oI he, oI ee, oI mm, oI cr, oI cc, oR b1, oJ nn, oS, oI ng, oI bs, oI ln, oR b61, oI la, oU, oU, oU, oU, oU, oU, oU, oU, oU, oU, oU, oU, oU] [(.ref b1), (.long nn), (.int mm), (.int (1 : Int32)), (.int (la - (1 : Int32))), (.ref b61)]
                      refine own_callS (W := 0) X68 hx hZ hown (hw _ (List.mem_of_getElem? (i := 21) rfl)) (hw _ (List.mem_of_getElem? (i := 22) rfl)) (hw _ (List.mem_of_getElem? (i := 23) rfl)) (hw _ (List.mem_of_getElem? (i := 24) rfl)) (by decide) (rm1 l Z a0 hw [] b61 (la - (1 : Int32)) (1 : Int32) mm nn b1 k61 k1 (own_puts (own_w1 ng he ee) la mm nn 1) [(.long (1 : Int64)), (.long (10 : Int64)), (.long (100 : Int64)), (.long (1000 : Int64)), (.long (10000 : Int64)), (.long (100000 : Int64)), (.long (1000000 : Int64)), (.long (10000000 : Int64)), (.long (100000000 : Int64)), (.long (1000000000 : Int64)), (.long (10000000000 : Int64)), (.long (100000000000 : Int64)), (.long (1000000000000 : Int64)), (.long (10000000000000 : Int64)), (.long (100000000000000 : Int64)), (.long (1000000000000000 : Int64)), (.long (10000000000000000 : Int64)), (.long (100000000000000000 : Int64)), (.long (1000000000000000000 : Int64))] (10 : Int64) T68.heap n0 Z_71 V68 (own_len22 (own_l1 ng he ee) 1) G_63 f_70 ne_62 ⟨by decide, by decide⟩ rfl (by decide) (own_at (kk := 1) (own_len22 (own_l1 ng he ee) 1) hbB hmB hla' (by decide) (by decide))) (by decide) (by decide) (by rw [hml]; rfl) [(.ref b61), (.int (la - (1 : Int32))), (.int (1 : Int32)), (.int mm), (.long nn), (.ref b1)] [] (lenOf pd_0_0 rfl) rfl rfl (Nat.le_of_ble_eq_true rfl) (hb hby at_356) (Eq.refl T68.heap) (by decide) (by decide) ?_
                      rintro _ T72 L72 X72 ⟨rfl, N72q, K72q, V72q⟩
                      have N_73 := Fr.app N_69 N72q
                      have f_74 := f_70.keep K72q (ninS ne_62 nin0)
                      have Z_75 := Nat.le_trans Z_71 K72q.1
                      have V72 : Arv Z T72.heap b61 k61 .byte (22 : Int32) (own_puts (own_w1 ng he ee) la mm nn 2) (.int (0 : Int32)) := V72q
                      show own_Go X72 (Q0 Z q0 q1 q2 p3 p4 p5 h0 n0) 2 41 359 #[oJ q0, oS, oJ q1, oS, oJ q2, oS, oI p3, oI p4, oI p5, oJ mn, oS, oJ mx, oS, oI ng, oI he, oI ee, oI mm, oI cr, oI cc, oR b1, oJ nn, oS, oI ng, oI bs, oI ln, oR b61, oI la, oU, oU, oU, oU, oU, oU, oU, oU, oU, oU, oU, oU, oU] []
                      refine own_st (fun _ k => XS.aload X72.here hx rfl (hb hby at_359) rfl rfl k) ?_
                      show own_Go X72 (Q0 Z q0 q1 q2 p3 p4 p5 h0 n0) 2 41 361 #[oJ q0, oS, oJ q1, oS, oJ q2, oS, oI p3, oI p4, oI p5, oJ mn, oS, oJ mx, oS, oI ng, oI he, oI ee, oI mm, oI cr, oI cc, oR b1, oJ nn, oS, oI ng, oI bs, oI ln, oR b61, oI la, oU, oU, oU, oU, oU, oU, oU, oU, oU, oU, oU, oU, oU] [(.ref b61)]
                      refine own_st (fun _ k => XS.iload X72.here hx rfl (hb hby at_361) rfl k) ?_
                      show own_Go X72 (Q0 Z q0 q1 q2 p3 p4 p5 h0 n0) 2 41 363 #[oJ q0, oS, oJ q1, oS, oJ q2, oS, oI p3, oI p4, oI p5, oJ mn, oS, oJ mx, oS, oI ng, oI he, oI ee, oI mm, oI cr, oI cc, oR b1, oJ nn, oS, oI ng, oI bs, oI ln, oR b61, oI la, oU, oU, oU, oU, oU, oU, oU, oU, oU, oU, oU, oU, oU] [(.int la), (.ref b61)]
                      refine own_st (fun _ k => XS.iconst X72.here hx rfl (hb hby at_363) k) ?_
                      show own_Go X72 (Q0 Z q0 q1 q2 p3 p4 p5 h0 n0) 2 41 364 #[oJ q0, oS, oJ q1, oS, oJ q2, oS, oI p3, oI p4, oI p5, oJ mn, oS, oJ mx, oS, oI ng, oI he, oI ee, oI mm, oI cr, oI cc, oR b1, oJ nn, oS, oI ng, oI bs, oI ln, oR b61, oI la, oU, oU, oU, oU, oU, oU, oU, oU, oU, oU, oU, oU, oU] [(.int (2 : Int32)), (.int la), (.ref b61)]
                      refine own_st (fun _ k => XS.isub X72.here hx rfl (hb hby at_364) rfl k) ?_
                      show own_Go X72 (Q0 Z q0 q1 q2 p3 p4 p5 h0 n0) 2 41 365 #[oJ q0, oS, oJ q1, oS, oJ q2, oS, oI p3, oI p4, oI p5, oJ mn, oS, oJ mx, oS, oI ng, oI he, oI ee, oI mm, oI cr, oI cc, oR b1, oJ nn, oS, oI ng, oI bs, oI ln, oR b61, oI la, oU, oU, oU, oU, oU, oU, oU, oU, oU, oU, oU, oU, oU] [(.int (la - (2 : Int32))), (.ref b61)]
                      refine own_st (fun _ k => XS.iconst X72.here hx rfl (hb hby at_365) k) ?_
                      show own_Go X72 (Q0 Z q0 q1 q2 p3 p4 p5 h0 n0) 2 41 366 #[oJ q0, oS, oJ q1, oS, oJ q2, oS, oI p3, oI p4, oI p5, oJ mn, oS, oJ mx, oS, oI ng, oI he, oI ee, oI mm, oI cr, oI cc, oR b1, oJ nn, oS, oI ng, oI bs, oI ln, oR b61, oI la, oU, oU, oU, oU, oU, oU, oU, oU, oU, oU, oU, oU, oU] [(.int (2 : Int32)), (.int (la - (2 : Int32))), (.ref b61)]
                      refine own_st (fun _ k => XS.iload X72.here hx rfl (hb hby at_366) rfl k) ?_
                      show own_Go X72 (Q0 Z q0 q1 q2 p3 p4 p5 h0 n0) 2 41 368 #[oJ q0, oS, oJ q1, oS, oJ q2, oS, oI p3, oI p4, oI p5, oJ mn, oS, oJ mx, oS, oI ng, oI he, oI ee, oI mm, oI cr, oI cc, oR b1, oJ nn, oS, oI ng, oI bs, oI ln, oR b61, oI la, oU, oU, oU, oU, oU, oU, oU, oU, oU, oU, oU, oU, oU] [(.int mm), (.int (2 : Int32)), (.int (la - (2 : Int32))), (.ref b61)]
                      refine own_st (fun _ k => XS.lload X72.here hx rfl (hb hby at_368) rfl k) ?_
                      show own_Go X72 (Q0 Z q0 q1 q2 p3 p4 p5 h0 n0) 2 41 370 #[oJ q0, oS, oJ q1, oS, oJ q2, oS, oI p3, oI p4, oI p5, oJ mn, oS, oJ mx, oS, oI ng, oI he, oI ee, oI mm, oI cr, oI cc, oR b1, oJ nn, oS, oI ng, oI bs, oI ln, oR b61, oI la, oU, oU, oU, oU, oU, oU, oU, oU, oU, oU, oU, oU, oU] [(.long nn), (.int mm), (.int (2 : Int32)), (.int (la - (2 : Int32))), (.ref b61)]
                      refine own_st (fun _ k => XS.aload X72.here hx rfl (hb hby at_370) rfl rfl k) ?_
                      show own_Go X72 (Q0 Z q0 q1 q2 p3 p4 p5 h0 n0) 2 41 372 #[oJ q0, oS, oJ q1, oS, oJ q2, oS, oI p3, oI p4, oI p5, oJ mn, oS, oJ mx, oS, oI ng, oI he, oI ee, oI mm, oI cr, oI cc, oR b1, oJ nn, oS, oI ng, oI bs, oI ln, oR b61, oI la, oU, oU, oU, oU, oU, oU, oU, oU, oU, oU, oU, oU, oU] [(.ref b1), (.long nn), (.int mm), (.int (2 : Int32)), (.int (la - (2 : Int32))), (.ref b61)]
                      refine own_callS (W := 0) X72 hx hZ hown (hw _ (List.mem_of_getElem? (i := 21) rfl)) (hw _ (List.mem_of_getElem? (i := 22) rfl)) (hw _ (List.mem_of_getElem? (i := 23) rfl)) (hw _ (List.mem_of_getElem? (i := 24) rfl)) (by decide) (rm1 l Z a0 hw [] b61 (la - (2 : Int32)) (2 : Int32) mm nn b1 k61 k1 (own_puts (own_w1 ng he ee) la mm nn 2) [(.long (1 : Int64)), (.long (10 : Int64)), (.long (100 : Int64)), (.long (1000 : Int64)), (.long (10000 : Int64)), (.long (100000 : Int64)), (.long (1000000 : Int64)), (.long (10000000 : Int64)), (.long (100000000 : Int64)), (.long (1000000000 : Int64)), (.long (10000000000 : Int64)), (.long (100000000000 : Int64)), (.long (1000000000000 : Int64)), (.long (10000000000000 : Int64)), (.long (100000000000000 : Int64)), (.long (1000000000000000 : Int64)), (.long (10000000000000000 : Int64)), (.long (100000000000000000 : Int64)), (.long (1000000000000000000 : Int64))] (100 : Int64) T72.heap n0 Z_75 V72 (own_len22 (own_l1 ng he ee) 2) G_63 f_74 ne_62 ⟨by decide, by decide⟩ rfl (by decide) (own_at (kk := 2) (own_len22 (own_l1 ng he ee) 2) hbB hmB hla' (by decide) (by decide))) (by decide) (by decide) (by rw [hml]; rfl) [(.ref b61), (.int (la - (2 : Int32))), (.int (2 : Int32)), (.int mm), (.long nn), (.ref b1)] [] (lenOf pd_0_0 rfl) rfl rfl (Nat.le_of_ble_eq_true rfl) (hb hby at_372) (Eq.refl T72.heap) (by decide) (by decide) ?_
                      rintro _ T76 L76 X76 ⟨rfl, N76q, K76q, V76q⟩
                      have N_77 := Fr.app N_73 N76q
                      have f_78 := f_74.keep K76q (ninS ne_62 nin0)
                      have Z_79 := Nat.le_trans Z_75 K76q.1
                      have V76 : Arv Z T76.heap b61 k61 .byte (22 : Int32) (own_puts (own_w1 ng he ee) la mm nn 3) (.int (0 : Int32)) := V76q
                      show own_Go X76 (Q0 Z q0 q1 q2 p3 p4 p5 h0 n0) 2 41 375 #[oJ q0, oS, oJ q1, oS, oJ q2, oS, oI p3, oI p4, oI p5, oJ mn, oS, oJ mx, oS, oI ng, oI he, oI ee, oI mm, oI cr, oI cc, oR b1, oJ nn, oS, oI ng, oI bs, oI ln, oR b61, oI la, oU, oU, oU, oU, oU, oU, oU, oU, oU, oU, oU, oU, oU] []
                      refine own_st (fun _ k => XS.aload X76.here hx rfl (hb hby at_375) rfl rfl k) ?_
                      show own_Go X76 (Q0 Z q0 q1 q2 p3 p4 p5 h0 n0) 2 41 377 #[oJ q0, oS, oJ q1, oS, oJ q2, oS, oI p3, oI p4, oI p5, oJ mn, oS, oJ mx, oS, oI ng, oI he, oI ee, oI mm, oI cr, oI cc, oR b1, oJ nn, oS, oI ng, oI bs, oI ln, oR b61, oI la, oU, oU, oU, oU, oU, oU, oU, oU, oU, oU, oU, oU, oU] [(.ref b61)]
                      refine own_st (fun _ k => XS.iload X76.here hx rfl (hb hby at_377) rfl k) ?_
                      show own_Go X76 (Q0 Z q0 q1 q2 p3 p4 p5 h0 n0) 2 41 379 #[oJ q0, oS, oJ q1, oS, oJ q2, oS, oI p3, oI p4, oI p5, oJ mn, oS, oJ mx, oS, oI ng, oI he, oI ee, oI mm, oI cr, oI cc, oR b1, oJ nn, oS, oI ng, oI bs, oI ln, oR b61, oI la, oU, oU, oU, oU, oU, oU, oU, oU, oU, oU, oU, oU, oU] [(.int la), (.ref b61)]
                      refine own_st (fun _ k => XS.iconst X76.here hx rfl (hb hby at_379) k) ?_
                      show own_Go X76 (Q0 Z q0 q1 q2 p3 p4 p5 h0 n0) 2 41 380 #[oJ q0, oS, oJ q1, oS, oJ q2, oS, oI p3, oI p4, oI p5, oJ mn, oS, oJ mx, oS, oI ng, oI he, oI ee, oI mm, oI cr, oI cc, oR b1, oJ nn, oS, oI ng, oI bs, oI ln, oR b61, oI la, oU, oU, oU, oU, oU, oU, oU, oU, oU, oU, oU, oU, oU] [(.int (3 : Int32)), (.int la), (.ref b61)]
                      refine own_st (fun _ k => XS.isub X76.here hx rfl (hb hby at_380) rfl k) ?_
                      show own_Go X76 (Q0 Z q0 q1 q2 p3 p4 p5 h0 n0) 2 41 381 #[oJ q0, oS, oJ q1, oS, oJ q2, oS, oI p3, oI p4, oI p5, oJ mn, oS, oJ mx, oS, oI ng, oI he, oI ee, oI mm, oI cr, oI cc, oR b1, oJ nn, oS, oI ng, oI bs, oI ln, oR b61, oI la, oU, oU, oU, oU, oU, oU, oU, oU, oU, oU, oU, oU, oU] [(.int (la - (3 : Int32))), (.ref b61)]
                      refine own_st (fun _ k => XS.iconst X76.here hx rfl (hb hby at_381) k) ?_
                      show own_Go X76 (Q0 Z q0 q1 q2 p3 p4 p5 h0 n0) 2 41 382 #[oJ q0, oS, oJ q1, oS, oJ q2, oS, oI p3, oI p4, oI p5, oJ mn, oS, oJ mx, oS, oI ng, oI he, oI ee, oI mm, oI cr, oI cc, oR b1, oJ nn, oS, oI ng, oI bs, oI ln, oR b61, oI la, oU, oU, oU, oU, oU, oU, oU, oU, oU, oU, oU, oU, oU] [(.int (3 : Int32)), (.int (la - (3 : Int32))), (.ref b61)]
                      refine own_st (fun _ k => XS.iload X76.here hx rfl (hb hby at_382) rfl k) ?_
                      show own_Go X76 (Q0 Z q0 q1 q2 p3 p4 p5 h0 n0) 2 41 384 #[oJ q0, oS, oJ q1, oS, oJ q2, oS, oI p3, oI p4, oI p5, oJ mn, oS, oJ mx, oS, oI ng, oI he, oI ee, oI mm, oI cr, oI cc, oR b1, oJ nn, oS, oI ng, oI bs, oI ln, oR b61, oI la, oU, oU, oU, oU, oU, oU, oU, oU, oU, oU, oU, oU, oU] [(.int mm), (.int (3 : Int32)), (.int (la - (3 : Int32))), (.ref b61)]
                      refine own_st (fun _ k => XS.lload X76.here hx rfl (hb hby at_384) rfl k) ?_
                      show own_Go X76 (Q0 Z q0 q1 q2 p3 p4 p5 h0 n0) 2 41 386 #[oJ q0, oS, oJ q1, oS, oJ q2, oS, oI p3, oI p4, oI p5, oJ mn, oS, oJ mx, oS, oI ng, oI he, oI ee, oI mm, oI cr, oI cc, oR b1, oJ nn, oS, oI ng, oI bs, oI ln, oR b61, oI la, oU, oU, oU, oU, oU, oU, oU, oU, oU, oU, oU, oU, oU] [(.long nn), (.int mm), (.int (3 : Int32)), (.int (la - (3 : Int32))), (.ref b61)]
                      refine own_st (fun _ k => XS.aload X76.here hx rfl (hb hby at_386) rfl rfl k) ?_
                      show own_Go X76 (Q0 Z q0 q1 q2 p3 p4 p5 h0 n0) 2 41 388 #[oJ q0, oS, oJ q1, oS, oJ q2, oS, oI p3, oI p4, oI p5, oJ mn, oS, oJ mx, oS, oI ng, oI he, oI ee, oI mm, oI cr, oI cc, oR b1, oJ nn, oS, oI ng, oI bs, oI ln, oR b61, oI la, oU, oU, oU, oU, oU, oU, oU, oU, oU, oU, oU, oU, oU] [(.ref b1), (.long nn), (.int mm), (.int (3 : Int32)), (.int (la - (3 : Int32))), (.ref b61)]
                      refine own_callS (W := 0) X76 hx hZ hown (hw _ (List.mem_of_getElem? (i := 21) rfl)) (hw _ (List.mem_of_getElem? (i := 22) rfl)) (hw _ (List.mem_of_getElem? (i := 23) rfl)) (hw _ (List.mem_of_getElem? (i := 24) rfl)) (by decide) (rm1 l Z a0 hw [] b61 (la - (3 : Int32)) (3 : Int32) mm nn b1 k61 k1 (own_puts (own_w1 ng he ee) la mm nn 3) [(.long (1 : Int64)), (.long (10 : Int64)), (.long (100 : Int64)), (.long (1000 : Int64)), (.long (10000 : Int64)), (.long (100000 : Int64)), (.long (1000000 : Int64)), (.long (10000000 : Int64)), (.long (100000000 : Int64)), (.long (1000000000 : Int64)), (.long (10000000000 : Int64)), (.long (100000000000 : Int64)), (.long (1000000000000 : Int64)), (.long (10000000000000 : Int64)), (.long (100000000000000 : Int64)), (.long (1000000000000000 : Int64)), (.long (10000000000000000 : Int64)), (.long (100000000000000000 : Int64)), (.long (1000000000000000000 : Int64))] (1000 : Int64) T76.heap n0 Z_79 V76 (own_len22 (own_l1 ng he ee) 3) G_63 f_78 ne_62 ⟨by decide, by decide⟩ rfl (by decide) (own_at (kk := 3) (own_len22 (own_l1 ng he ee) 3) hbB hmB hla' (by decide) (by decide))) (by decide) (by decide) (by rw [hml]; rfl) [(.ref b61), (.int (la - (3 : Int32))), (.int (3 : Int32)), (.int mm), (.long nn), (.ref b1)] [] (lenOf pd_0_0 rfl) rfl rfl (Nat.le_of_ble_eq_true rfl) (hb hby at_388) (Eq.refl T76.heap) (by decide) (by decide) ?_
                      rintro _ T80 L80 X80 ⟨rfl, N80q, K80q, V80q⟩
                      have N_81 := Fr.app N_77 N80q
                      have f_82 := f_78.keep K80q (ninS ne_62 nin0)
                      have Z_83 := Nat.le_trans Z_79 K80q.1
                      have V80 : Arv Z T80.heap b61 k61 .byte (22 : Int32) (own_puts (own_w1 ng he ee) la mm nn 4) (.int (0 : Int32)) := V80q
                      show own_Go X80 (Q0 Z q0 q1 q2 p3 p4 p5 h0 n0) 2 41 391 #[oJ q0, oS, oJ q1, oS, oJ q2, oS, oI p3, oI p4, oI p5, oJ mn, oS, oJ mx, oS, oI ng, oI he, oI ee, oI mm, oI cr, oI cc, oR b1, oJ nn, oS, oI ng, oI bs, oI ln, oR b61, oI la, oU, oU, oU, oU, oU, oU, oU, oU, oU, oU, oU, oU, oU] []
                      refine own_st (fun _ k => XS.aload X80.here hx rfl (hb hby at_391) rfl rfl k) ?_
                      show own_Go X80 (Q0 Z q0 q1 q2 p3 p4 p5 h0 n0) 2 41 393 #[oJ q0, oS, oJ q1, oS, oJ q2, oS, oI p3, oI p4, oI p5, oJ mn, oS, oJ mx, oS, oI ng, oI he, oI ee, oI mm, oI cr, oI cc, oR b1, oJ nn, oS, oI ng, oI bs, oI ln, oR b61, oI la, oU, oU, oU, oU, oU, oU, oU, oU, oU, oU, oU, oU, oU] [(.ref b61)]
                      refine own_st (fun _ k => XS.iload X80.here hx rfl (hb hby at_393) rfl k) ?_
                      show own_Go X80 (Q0 Z q0 q1 q2 p3 p4 p5 h0 n0) 2 41 395 #[oJ q0, oS, oJ q1, oS, oJ q2, oS, oI p3, oI p4, oI p5, oJ mn, oS, oJ mx, oS, oI ng, oI he, oI ee, oI mm, oI cr, oI cc, oR b1, oJ nn, oS, oI ng, oI bs, oI ln, oR b61, oI la, oU, oU, oU, oU, oU, oU, oU, oU, oU, oU, oU, oU, oU] [(.int la), (.ref b61)]
                      refine own_st (fun _ k => XS.iconst X80.here hx rfl (hb hby at_395) k) ?_
                      show own_Go X80 (Q0 Z q0 q1 q2 p3 p4 p5 h0 n0) 2 41 396 #[oJ q0, oS, oJ q1, oS, oJ q2, oS, oI p3, oI p4, oI p5, oJ mn, oS, oJ mx, oS, oI ng, oI he, oI ee, oI mm, oI cr, oI cc, oR b1, oJ nn, oS, oI ng, oI bs, oI ln, oR b61, oI la, oU, oU, oU, oU, oU, oU, oU, oU, oU, oU, oU, oU, oU] [(.int (4 : Int32)), (.int la), (.ref b61)]
                      refine own_st (fun _ k => XS.isub X80.here hx rfl (hb hby at_396) rfl k) ?_
                      show own_Go X80 (Q0 Z q0 q1 q2 p3 p4 p5 h0 n0) 2 41 397 #[oJ q0, oS, oJ q1, oS, oJ q2, oS, oI p3, oI p4, oI p5, oJ mn, oS, oJ mx, oS, oI ng, oI he, oI ee, oI mm, oI cr, oI cc, oR b1, oJ nn, oS, oI ng, oI bs, oI ln, oR b61, oI la, oU, oU, oU, oU, oU, oU, oU, oU, oU, oU, oU, oU, oU] [(.int (la - (4 : Int32))), (.ref b61)]
                      refine own_st (fun _ k => XS.iconst X80.here hx rfl (hb hby at_397) k) ?_
                      show own_Go X80 (Q0 Z q0 q1 q2 p3 p4 p5 h0 n0) 2 41 398 #[oJ q0, oS, oJ q1, oS, oJ q2, oS, oI p3, oI p4, oI p5, oJ mn, oS, oJ mx, oS, oI ng, oI he, oI ee, oI mm, oI cr, oI cc, oR b1, oJ nn, oS, oI ng, oI bs, oI ln, oR b61, oI la, oU, oU, oU, oU, oU, oU, oU, oU, oU, oU, oU, oU, oU] [(.int (4 : Int32)), (.int (la - (4 : Int32))), (.ref b61)]
                      refine own_st (fun _ k => XS.iload X80.here hx rfl (hb hby at_398) rfl k) ?_
                      show own_Go X80 (Q0 Z q0 q1 q2 p3 p4 p5 h0 n0) 2 41 400 #[oJ q0, oS, oJ q1, oS, oJ q2, oS, oI p3, oI p4, oI p5, oJ mn, oS, oJ mx, oS, oI ng, oI he, oI ee, oI mm, oI cr, oI cc, oR b1, oJ nn, oS, oI ng, oI bs, oI ln, oR b61, oI la, oU, oU, oU, oU, oU, oU, oU, oU, oU, oU, oU, oU, oU] [(.int mm), (.int (4 : Int32)), (.int (la - (4 : Int32))), (.ref b61)]
                      refine own_st (fun _ k => XS.lload X80.here hx rfl (hb hby at_400) rfl k) ?_
                      show own_Go X80 (Q0 Z q0 q1 q2 p3 p4 p5 h0 n0) 2 41 402 #[oJ q0, oS, oJ q1, oS, oJ q2, oS, oI p3, oI p4, oI p5, oJ mn, oS, oJ mx, oS, oI ng, oI he, oI ee, oI mm, oI cr, oI cc, oR b1, oJ nn, oS, oI ng, oI bs, oI ln, oR b61, oI la, oU, oU, oU, oU, oU, oU, oU, oU, oU, oU, oU, oU, oU] [(.long nn), (.int mm), (.int (4 : Int32)), (.int (la - (4 : Int32))), (.ref b61)]
                      refine own_st (fun _ k => XS.aload X80.here hx rfl (hb hby at_402) rfl rfl k) ?_
                      show own_Go X80 (Q0 Z q0 q1 q2 p3 p4 p5 h0 n0) 2 41 404 #[oJ q0, oS, oJ q1, oS, oJ q2, oS, oI p3, oI p4, oI p5, oJ mn, oS, oJ mx, oS, oI ng, oI he, oI ee, oI mm, oI cr, oI cc, oR b1, oJ nn, oS, oI ng, oI bs, oI ln, oR b61, oI la, oU, oU, oU, oU, oU, oU, oU, oU, oU, oU, oU, oU, oU] [(.ref b1), (.long nn), (.int mm), (.int (4 : Int32)), (.int (la - (4 : Int32))), (.ref b61)]
                      refine own_callS (W := 0) X80 hx hZ hown (hw _ (List.mem_of_getElem? (i := 21) rfl)) (hw _ (List.mem_of_getElem? (i := 22) rfl)) (hw _ (List.mem_of_getElem? (i := 23) rfl)) (hw _ (List.mem_of_getElem? (i := 24) rfl)) (by decide) (rm1 l Z a0 hw [] b61 (la - (4 : Int32)) (4 : Int32) mm nn b1 k61 k1 (own_puts (own_w1 ng he ee) la mm nn 4) [(.long (1 : Int64)), (.long (10 : Int64)), (.long (100 : Int64)), (.long (1000 : Int64)), (.long (10000 : Int64)), (.long (100000 : Int64)), (.long (1000000 : Int64)), (.long (10000000 : Int64)), (.long (100000000 : Int64)), (.long (1000000000 : Int64)), (.long (10000000000 : Int64)), (.long (100000000000 : Int64)), (.long (1000000000000 : Int64)), (.long (10000000000000 : Int64)), (.long (100000000000000 : Int64)), (.long (1000000000000000 : Int64)), (.long (10000000000000000 : Int64)), (.long (100000000000000000 : Int64)), (.long (1000000000000000000 : Int64))] (10000 : Int64) T80.heap n0 Z_83 V80 (own_len22 (own_l1 ng he ee) 4) G_63 f_82 ne_62 ⟨by decide, by decide⟩ rfl (by decide) (own_at (kk := 4) (own_len22 (own_l1 ng he ee) 4) hbB hmB hla' (by decide) (by decide))) (by decide) (by decide) (by rw [hml]; rfl) [(.ref b61), (.int (la - (4 : Int32))), (.int (4 : Int32)), (.int mm), (.long nn), (.ref b1)] [] (lenOf pd_0_0 rfl) rfl rfl (Nat.le_of_ble_eq_true rfl) (hb hby at_404) (Eq.refl T80.heap) (by decide) (by decide) ?_
                      rintro _ T84 L84 X84 ⟨rfl, N84q, K84q, V84q⟩
                      have N_85 := Fr.app N_81 N84q
                      have f_86 := f_82.keep K84q (ninS ne_62 nin0)
                      have Z_87 := Nat.le_trans Z_83 K84q.1
                      have V84 : Arv Z T84.heap b61 k61 .byte (22 : Int32) (own_puts (own_w1 ng he ee) la mm nn 5) (.int (0 : Int32)) := V84q
                      show own_Go X84 (Q0 Z q0 q1 q2 p3 p4 p5 h0 n0) 2 41 407 #[oJ q0, oS, oJ q1, oS, oJ q2, oS, oI p3, oI p4, oI p5, oJ mn, oS, oJ mx, oS, oI ng, oI he, oI ee, oI mm, oI cr, oI cc, oR b1, oJ nn, oS, oI ng, oI bs, oI ln, oR b61, oI la, oU, oU, oU, oU, oU, oU, oU, oU, oU, oU, oU, oU, oU] []
                      refine own_st (fun _ k => XS.aload X84.here hx rfl (hb hby at_407) rfl rfl k) ?_
                      show own_Go X84 (Q0 Z q0 q1 q2 p3 p4 p5 h0 n0) 2 41 409 #[oJ q0, oS, oJ q1, oS, oJ q2, oS, oI p3, oI p4, oI p5, oJ mn, oS, oJ mx, oS, oI ng, oI he, oI ee, oI mm, oI cr, oI cc, oR b1, oJ nn, oS, oI ng, oI bs, oI ln, oR b61, oI la, oU, oU, oU, oU, oU, oU, oU, oU, oU, oU, oU, oU, oU] [(.ref b61)]
                      refine own_st (fun _ k => XS.iload X84.here hx rfl (hb hby at_409) rfl k) ?_
                      show own_Go X84 (Q0 Z q0 q1 q2 p3 p4 p5 h0 n0) 2 41 411 #[oJ q0, oS, oJ q1, oS, oJ q2, oS, oI p3, oI p4, oI p5, oJ mn, oS, oJ mx, oS, oI ng, oI he, oI ee, oI mm, oI cr, oI cc, oR b1, oJ nn, oS, oI ng, oI bs, oI ln, oR b61, oI la, oU, oU, oU, oU, oU, oU, oU, oU, oU, oU, oU, oU, oU] [(.int la), (.ref b61)]
                      refine own_st (fun _ k => XS.iconst X84.here hx rfl (hb hby at_411) k) ?_
                      show own_Go X84 (Q0 Z q0 q1 q2 p3 p4 p5 h0 n0) 2 41 412 #[oJ q0, oS, oJ q1, oS, oJ q2, oS, oI p3, oI p4, oI p5, oJ mn, oS, oJ mx, oS, oI ng, oI he, oI ee, oI mm, oI cr, oI cc, oR b1, oJ nn, oS, oI ng, oI bs, oI ln, oR b61, oI la, oU, oU, oU, oU, oU, oU, oU, oU, oU, oU, oU, oU, oU] [(.int (5 : Int32)), (.int la), (.ref b61)]
                      refine own_st (fun _ k => XS.isub X84.here hx rfl (hb hby at_412) rfl k) ?_
                      show own_Go X84 (Q0 Z q0 q1 q2 p3 p4 p5 h0 n0) 2 41 413 #[oJ q0, oS, oJ q1, oS, oJ q2, oS, oI p3, oI p4, oI p5, oJ mn, oS, oJ mx, oS, oI ng, oI he, oI ee, oI mm, oI cr, oI cc, oR b1, oJ nn, oS, oI ng, oI bs, oI ln, oR b61, oI la, oU, oU, oU, oU, oU, oU, oU, oU, oU, oU, oU, oU, oU] [(.int (la - (5 : Int32))), (.ref b61)]
                      refine own_st (fun _ k => XS.iconst X84.here hx rfl (hb hby at_413) k) ?_
                      show own_Go X84 (Q0 Z q0 q1 q2 p3 p4 p5 h0 n0) 2 41 414 #[oJ q0, oS, oJ q1, oS, oJ q2, oS, oI p3, oI p4, oI p5, oJ mn, oS, oJ mx, oS, oI ng, oI he, oI ee, oI mm, oI cr, oI cc, oR b1, oJ nn, oS, oI ng, oI bs, oI ln, oR b61, oI la, oU, oU, oU, oU, oU, oU, oU, oU, oU, oU, oU, oU, oU] [(.int (5 : Int32)), (.int (la - (5 : Int32))), (.ref b61)]
                      refine own_st (fun _ k => XS.iload X84.here hx rfl (hb hby at_414) rfl k) ?_
                      show own_Go X84 (Q0 Z q0 q1 q2 p3 p4 p5 h0 n0) 2 41 416 #[oJ q0, oS, oJ q1, oS, oJ q2, oS, oI p3, oI p4, oI p5, oJ mn, oS, oJ mx, oS, oI ng, oI he, oI ee, oI mm, oI cr, oI cc, oR b1, oJ nn, oS, oI ng, oI bs, oI ln, oR b61, oI la, oU, oU, oU, oU, oU, oU, oU, oU, oU, oU, oU, oU, oU] [(.int mm), (.int (5 : Int32)), (.int (la - (5 : Int32))), (.ref b61)]
                      refine own_st (fun _ k => XS.lload X84.here hx rfl (hb hby at_416) rfl k) ?_
                      show own_Go X84 (Q0 Z q0 q1 q2 p3 p4 p5 h0 n0) 2 41 418 #[oJ q0, oS, oJ q1, oS, oJ q2, oS, oI p3, oI p4, oI p5, oJ mn, oS, oJ mx, oS, oI ng, oI he, oI ee, oI mm, oI cr, oI cc, oR b1, oJ nn, oS, oI ng, oI bs, oI ln, oR b61, oI la, oU, oU, oU, oU, oU, oU, oU, oU, oU, oU, oU, oU, oU] [(.long nn), (.int mm), (.int (5 : Int32)), (.int (la - (5 : Int32))), (.ref b61)]
                      refine own_st (fun _ k => XS.aload X84.here hx rfl (hb hby at_418) rfl rfl k) ?_
                      show own_Go X84 (Q0 Z q0 q1 q2 p3 p4 p5 h0 n0) 2 41 420 #[oJ q0, oS, oJ q1, oS, oJ q2, oS, oI p3, oI p4, oI p5, oJ mn, oS, oJ mx, oS, oI ng, oI he, oI ee, oI mm, oI cr, oI cc, oR b1, oJ nn, oS, oI ng, oI bs, oI ln, oR b61, oI la, oU, oU, oU, oU, oU, oU, oU, oU, oU, oU, oU, oU, oU] [(.ref b1), (.long nn), (.int mm), (.int (5 : Int32)), (.int (la - (5 : Int32))), (.ref b61)]
                      refine own_callS (W := 0) X84 hx hZ hown (hw _ (List.mem_of_getElem? (i := 21) rfl)) (hw _ (List.mem_of_getElem? (i := 22) rfl)) (hw _ (List.mem_of_getElem? (i := 23) rfl)) (hw _ (List.mem_of_getElem? (i := 24) rfl)) (by decide) (rm1 l Z a0 hw [] b61 (la - (5 : Int32)) (5 : Int32) mm nn b1 k61 k1 (own_puts (own_w1 ng he ee) la mm nn 5) [(.long (1 : Int64)), (.long (10 : Int64)), (.long (100 : Int64)), (.long (1000 : Int64)), (.long (10000 : Int64)), (.long (100000 : Int64)), (.long (1000000 : Int64)), (.long (10000000 : Int64)), (.long (100000000 : Int64)), (.long (1000000000 : Int64)), (.long (10000000000 : Int64)), (.long (100000000000 : Int64)), (.long (1000000000000 : Int64)), (.long (10000000000000 : Int64)), (.long (100000000000000 : Int64)), (.long (1000000000000000 : Int64)), (.long (10000000000000000 : Int64)), (.long (100000000000000000 : Int64)), (.long (1000000000000000000 : Int64))] (100000 : Int64) T84.heap n0 Z_87 V84 (own_len22 (own_l1 ng he ee) 5) G_63 f_86 ne_62 ⟨by decide, by decide⟩ rfl (by decide) (own_at (kk := 5) (own_len22 (own_l1 ng he ee) 5) hbB hmB hla' (by decide) (by decide))) (by decide) (by decide) (by rw [hml]; rfl) [(.ref b61), (.int (la - (5 : Int32))), (.int (5 : Int32)), (.int mm), (.long nn), (.ref b1)] [] (lenOf pd_0_0 rfl) rfl rfl (Nat.le_of_ble_eq_true rfl) (hb hby at_420) (Eq.refl T84.heap) (by decide) (by decide) ?_
                      rintro _ T88 L88 X88 ⟨rfl, N88q, K88q, V88q⟩
                      have N_89 := Fr.app N_85 N88q
                      have f_90 := f_86.keep K88q (ninS ne_62 nin0)
                      have Z_91 := Nat.le_trans Z_87 K88q.1
                      have V88 : Arv Z T88.heap b61 k61 .byte (22 : Int32) (own_puts (own_w1 ng he ee) la mm nn 6) (.int (0 : Int32)) := V88q
                      show own_Go X88 (Q0 Z q0 q1 q2 p3 p4 p5 h0 n0) 2 41 423 #[oJ q0, oS, oJ q1, oS, oJ q2, oS, oI p3, oI p4, oI p5, oJ mn, oS, oJ mx, oS, oI ng, oI he, oI ee, oI mm, oI cr, oI cc, oR b1, oJ nn, oS, oI ng, oI bs, oI ln, oR b61, oI la, oU, oU, oU, oU, oU, oU, oU, oU, oU, oU, oU, oU, oU] []
                      refine own_st (fun _ k => XS.aload X88.here hx rfl (hb hby at_423) rfl rfl k) ?_
                      show own_Go X88 (Q0 Z q0 q1 q2 p3 p4 p5 h0 n0) 2 41 425 #[oJ q0, oS, oJ q1, oS, oJ q2, oS, oI p3, oI p4, oI p5, oJ mn, oS, oJ mx, oS, oI ng, oI he, oI ee, oI mm, oI cr, oI cc, oR b1, oJ nn, oS, oI ng, oI bs, oI ln, oR b61, oI la, oU, oU, oU, oU, oU, oU, oU, oU, oU, oU, oU, oU, oU] [(.ref b61)]
                      refine own_st (fun _ k => XS.iload X88.here hx rfl (hb hby at_425) rfl k) ?_
                      show own_Go X88 (Q0 Z q0 q1 q2 p3 p4 p5 h0 n0) 2 41 427 #[oJ q0, oS, oJ q1, oS, oJ q2, oS, oI p3, oI p4, oI p5, oJ mn, oS, oJ mx, oS, oI ng, oI he, oI ee, oI mm, oI cr, oI cc, oR b1, oJ nn, oS, oI ng, oI bs, oI ln, oR b61, oI la, oU, oU, oU, oU, oU, oU, oU, oU, oU, oU, oU, oU, oU] [(.int la), (.ref b61)]
                      refine own_st (fun _ k => XS.bipush X88.here hx rfl (hb hby at_427) k) ?_
                      show own_Go X88 (Q0 Z q0 q1 q2 p3 p4 p5 h0 n0) 2 41 429 #[oJ q0, oS, oJ q1, oS, oJ q2, oS, oI p3, oI p4, oI p5, oJ mn, oS, oJ mx, oS, oI ng, oI he, oI ee, oI mm, oI cr, oI cc, oR b1, oJ nn, oS, oI ng, oI bs, oI ln, oR b61, oI la, oU, oU, oU, oU, oU, oU, oU, oU, oU, oU, oU, oU, oU] [(.int (6 : Int32)), (.int la), (.ref b61)]
                      refine own_st (fun _ k => XS.isub X88.here hx rfl (hb hby at_429) rfl k) ?_
                      show own_Go X88 (Q0 Z q0 q1 q2 p3 p4 p5 h0 n0) 2 41 430 #[oJ q0, oS, oJ q1, oS, oJ q2, oS, oI p3, oI p4, oI p5, oJ mn, oS, oJ mx, oS, oI ng, oI he, oI ee, oI mm, oI cr, oI cc, oR b1, oJ nn, oS, oI ng, oI bs, oI ln, oR b61, oI la, oU, oU, oU, oU, oU, oU, oU, oU, oU, oU, oU, oU, oU] [(.int (la - (6 : Int32))), (.ref b61)]
                      refine own_st (fun _ k => XS.bipush X88.here hx rfl (hb hby at_430) k) ?_
                      show own_Go X88 (Q0 Z q0 q1 q2 p3 p4 p5 h0 n0) 2 41 432 #[oJ q0, oS, oJ q1, oS, oJ q2, oS, oI p3, oI p4, oI p5, oJ mn, oS, oJ mx, oS, oI ng, oI he, oI ee, oI mm, oI cr, oI cc, oR b1, oJ nn, oS, oI ng, oI bs, oI ln, oR b61, oI la, oU, oU, oU, oU, oU, oU, oU, oU, oU, oU, oU, oU, oU] [(.int (6 : Int32)), (.int (la - (6 : Int32))), (.ref b61)]
                      refine own_st (fun _ k => XS.iload X88.here hx rfl (hb hby at_432) rfl k) ?_
                      show own_Go X88 (Q0 Z q0 q1 q2 p3 p4 p5 h0 n0) 2 41 434 #[oJ q0, oS, oJ q1, oS, oJ q2, oS, oI p3, oI p4, oI p5, oJ mn, oS, oJ mx, oS, oI ng, oI he, oI ee, oI mm, oI cr, oI cc, oR b1, oJ nn, oS, oI ng, oI bs, oI ln, oR b61, oI la, oU, oU, oU, oU, oU, oU, oU, oU, oU, oU, oU, oU, oU] [(.int mm), (.int (6 : Int32)), (.int (la - (6 : Int32))), (.ref b61)]
                      refine own_st (fun _ k => XS.lload X88.here hx rfl (hb hby at_434) rfl k) ?_
                      show own_Go X88 (Q0 Z q0 q1 q2 p3 p4 p5 h0 n0) 2 41 436 #[oJ q0, oS, oJ q1, oS, oJ q2, oS, oI p3, oI p4, oI p5, oJ mn, oS, oJ mx, oS, oI ng, oI he, oI ee, oI mm, oI cr, oI cc, oR b1, oJ nn, oS, oI ng, oI bs, oI ln, oR b61, oI la, oU, oU, oU, oU, oU, oU, oU, oU, oU, oU, oU, oU, oU] [(.long nn), (.int mm), (.int (6 : Int32)), (.int (la - (6 : Int32))), (.ref b61)]
                      refine own_st (fun _ k => XS.aload X88.here hx rfl (hb hby at_436) rfl rfl k) ?_
                      show own_Go X88 (Q0 Z q0 q1 q2 p3 p4 p5 h0 n0) 2 41 438 #[oJ q0, oS, oJ q1, oS, oJ q2, oS, oI p3, oI p4, oI p5, oJ mn, oS, oJ mx, oS, oI ng, oI he, oI ee, oI mm, oI cr, oI cc, oR b1, oJ nn, oS, oI ng, oI bs, oI ln, oR b61, oI la, oU, oU, oU, oU, oU, oU, oU, oU, oU, oU, oU, oU, oU] [(.ref b1), (.long nn), (.int mm), (.int (6 : Int32)), (.int (la - (6 : Int32))), (.ref b61)]
                      refine own_callS (W := 0) X88 hx hZ hown (hw _ (List.mem_of_getElem? (i := 21) rfl)) (hw _ (List.mem_of_getElem? (i := 22) rfl)) (hw _ (List.mem_of_getElem? (i := 23) rfl)) (hw _ (List.mem_of_getElem? (i := 24) rfl)) (by decide) (rm1 l Z a0 hw [] b61 (la - (6 : Int32)) (6 : Int32) mm nn b1 k61 k1 (own_puts (own_w1 ng he ee) la mm nn 6) [(.long (1 : Int64)), (.long (10 : Int64)), (.long (100 : Int64)), (.long (1000 : Int64)), (.long (10000 : Int64)), (.long (100000 : Int64)), (.long (1000000 : Int64)), (.long (10000000 : Int64)), (.long (100000000 : Int64)), (.long (1000000000 : Int64)), (.long (10000000000 : Int64)), (.long (100000000000 : Int64)), (.long (1000000000000 : Int64)), (.long (10000000000000 : Int64)), (.long (100000000000000 : Int64)), (.long (1000000000000000 : Int64)), (.long (10000000000000000 : Int64)), (.long (100000000000000000 : Int64)), (.long (1000000000000000000 : Int64))] (1000000 : Int64) T88.heap n0 Z_91 V88 (own_len22 (own_l1 ng he ee) 6) G_63 f_90 ne_62 ⟨by decide, by decide⟩ rfl (by decide) (own_at (kk := 6) (own_len22 (own_l1 ng he ee) 6) hbB hmB hla' (by decide) (by decide))) (by decide) (by decide) (by rw [hml]; rfl) [(.ref b61), (.int (la - (6 : Int32))), (.int (6 : Int32)), (.int mm), (.long nn), (.ref b1)] [] (lenOf pd_0_0 rfl) rfl rfl (Nat.le_of_ble_eq_true rfl) (hb hby at_438) (Eq.refl T88.heap) (by decide) (by decide) ?_
                      rintro _ T92 L92 X92 ⟨rfl, N92q, K92q, V92q⟩
                      have N_93 := Fr.app N_89 N92q
                      have f_94 := f_90.keep K92q (ninS ne_62 nin0)
                      have Z_95 := Nat.le_trans Z_91 K92q.1
                      have V92 : Arv Z T92.heap b61 k61 .byte (22 : Int32) (own_puts (own_w1 ng he ee) la mm nn 7) (.int (0 : Int32)) := V92q
                      show own_Go X92 (Q0 Z q0 q1 q2 p3 p4 p5 h0 n0) 2 41 441 #[oJ q0, oS, oJ q1, oS, oJ q2, oS, oI p3, oI p4, oI p5, oJ mn, oS, oJ mx, oS, oI ng, oI he, oI ee, oI mm, oI cr, oI cc, oR b1, oJ nn, oS, oI ng, oI bs, oI ln, oR b61, oI la, oU, oU, oU, oU, oU, oU, oU, oU, oU, oU, oU, oU, oU] []
                      refine own_st (fun _ k => XS.aload X92.here hx rfl (hb hby at_441) rfl rfl k) ?_
                      show own_Go X92 (Q0 Z q0 q1 q2 p3 p4 p5 h0 n0) 2 41 443 #[oJ q0, oS, oJ q1, oS, oJ q2, oS, oI p3, oI p4, oI p5, oJ mn, oS, oJ mx, oS, oI ng, oI he, oI ee, oI mm, oI cr, oI cc, oR b1, oJ nn, oS, oI ng, oI bs, oI ln, oR b61, oI la, oU, oU, oU, oU, oU, oU, oU, oU, oU, oU, oU, oU, oU] [(.ref b61)]
                      refine own_st (fun _ k => XS.iload X92.here hx rfl (hb hby at_443) rfl k) ?_
                      show own_Go X92 (Q0 Z q0 q1 q2 p3 p4 p5 h0 n0) 2 41 445 #[oJ q0, oS, oJ q1, oS, oJ q2, oS, oI p3, oI p4, oI p5, oJ mn, oS, oJ mx, oS, oI ng, oI he, oI ee, oI mm, oI cr, oI cc, oR b1, oJ nn, oS, oI ng, oI bs, oI ln, oR b61, oI la, oU, oU, oU, oU, oU, oU, oU, oU, oU, oU, oU, oU, oU] [(.int la), (.ref b61)]
                      refine own_st (fun _ k => XS.bipush X92.here hx rfl (hb hby at_445) k) ?_
                      show own_Go X92 (Q0 Z q0 q1 q2 p3 p4 p5 h0 n0) 2 41 447 #[oJ q0, oS, oJ q1, oS, oJ q2, oS, oI p3, oI p4, oI p5, oJ mn, oS, oJ mx, oS, oI ng, oI he, oI ee, oI mm, oI cr, oI cc, oR b1, oJ nn, oS, oI ng, oI bs, oI ln, oR b61, oI la, oU, oU, oU, oU, oU, oU, oU, oU, oU, oU, oU, oU, oU] [(.int (7 : Int32)), (.int la), (.ref b61)]
                      refine own_st (fun _ k => XS.isub X92.here hx rfl (hb hby at_447) rfl k) ?_
                      show own_Go X92 (Q0 Z q0 q1 q2 p3 p4 p5 h0 n0) 2 41 448 #[oJ q0, oS, oJ q1, oS, oJ q2, oS, oI p3, oI p4, oI p5, oJ mn, oS, oJ mx, oS, oI ng, oI he, oI ee, oI mm, oI cr, oI cc, oR b1, oJ nn, oS, oI ng, oI bs, oI ln, oR b61, oI la, oU, oU, oU, oU, oU, oU, oU, oU, oU, oU, oU, oU, oU] [(.int (la - (7 : Int32))), (.ref b61)]
                      refine own_st (fun _ k => XS.bipush X92.here hx rfl (hb hby at_448) k) ?_
                      show own_Go X92 (Q0 Z q0 q1 q2 p3 p4 p5 h0 n0) 2 41 450 #[oJ q0, oS, oJ q1, oS, oJ q2, oS, oI p3, oI p4, oI p5, oJ mn, oS, oJ mx, oS, oI ng, oI he, oI ee, oI mm, oI cr, oI cc, oR b1, oJ nn, oS, oI ng, oI bs, oI ln, oR b61, oI la, oU, oU, oU, oU, oU, oU, oU, oU, oU, oU, oU, oU, oU] [(.int (7 : Int32)), (.int (la - (7 : Int32))), (.ref b61)]
                      refine own_st (fun _ k => XS.iload X92.here hx rfl (hb hby at_450) rfl k) ?_
                      show own_Go X92 (Q0 Z q0 q1 q2 p3 p4 p5 h0 n0) 2 41 452 #[oJ q0, oS, oJ q1, oS, oJ q2, oS, oI p3, oI p4, oI p5, oJ mn, oS, oJ mx, oS, oI ng, oI he, oI ee, oI mm, oI cr, oI cc, oR b1, oJ nn, oS, oI ng, oI bs, oI ln, oR b61, oI la, oU, oU, oU, oU, oU, oU, oU, oU, oU, oU, oU, oU, oU] [(.int mm), (.int (7 : Int32)), (.int (la - (7 : Int32))), (.ref b61)]
                      refine own_st (fun _ k => XS.lload X92.here hx rfl (hb hby at_452) rfl k) ?_
                      show own_Go X92 (Q0 Z q0 q1 q2 p3 p4 p5 h0 n0) 2 41 454 #[oJ q0, oS, oJ q1, oS, oJ q2, oS, oI p3, oI p4, oI p5, oJ mn, oS, oJ mx, oS, oI ng, oI he, oI ee, oI mm, oI cr, oI cc, oR b1, oJ nn, oS, oI ng, oI bs, oI ln, oR b61, oI la, oU, oU, oU, oU, oU, oU, oU, oU, oU, oU, oU, oU, oU] [(.long nn), (.int mm), (.int (7 : Int32)), (.int (la - (7 : Int32))), (.ref b61)]
                      refine own_st (fun _ k => XS.aload X92.here hx rfl (hb hby at_454) rfl rfl k) ?_
                      show own_Go X92 (Q0 Z q0 q1 q2 p3 p4 p5 h0 n0) 2 41 456 #[oJ q0, oS, oJ q1, oS, oJ q2, oS, oI p3, oI p4, oI p5, oJ mn, oS, oJ mx, oS, oI ng, oI he, oI ee, oI mm, oI cr, oI cc, oR b1, oJ nn, oS, oI ng, oI bs, oI ln, oR b61, oI la, oU, oU, oU, oU, oU, oU, oU, oU, oU, oU, oU, oU, oU] [(.ref b1), (.long nn), (.int mm), (.int (7 : Int32)), (.int (la - (7 : Int32))), (.ref b61)]
                      refine own_callS (W := 0) X92 hx hZ hown (hw _ (List.mem_of_getElem? (i := 21) rfl)) (hw _ (List.mem_of_getElem? (i := 22) rfl)) (hw _ (List.mem_of_getElem? (i := 23) rfl)) (hw _ (List.mem_of_getElem? (i := 24) rfl)) (by decide) (rm1 l Z a0 hw [] b61 (la - (7 : Int32)) (7 : Int32) mm nn b1 k61 k1 (own_puts (own_w1 ng he ee) la mm nn 7) [(.long (1 : Int64)), (.long (10 : Int64)), (.long (100 : Int64)), (.long (1000 : Int64)), (.long (10000 : Int64)), (.long (100000 : Int64)), (.long (1000000 : Int64)), (.long (10000000 : Int64)), (.long (100000000 : Int64)), (.long (1000000000 : Int64)), (.long (10000000000 : Int64)), (.long (100000000000 : Int64)), (.long (1000000000000 : Int64)), (.long (10000000000000 : Int64)), (.long (100000000000000 : Int64)), (.long (1000000000000000 : Int64)), (.long (10000000000000000 : Int64)), (.long (100000000000000000 : Int64)), (.long (1000000000000000000 : Int64))] (10000000 : Int64) T92.heap n0 Z_95 V92 (own_len22 (own_l1 ng he ee) 7) G_63 f_94 ne_62 ⟨by decide, by decide⟩ rfl (by decide) (own_at (kk := 7) (own_len22 (own_l1 ng he ee) 7) hbB hmB hla' (by decide) (by decide))) (by decide) (by decide) (by rw [hml]; rfl) [(.ref b61), (.int (la - (7 : Int32))), (.int (7 : Int32)), (.int mm), (.long nn), (.ref b1)] [] (lenOf pd_0_0 rfl) rfl rfl (Nat.le_of_ble_eq_true rfl) (hb hby at_456) (Eq.refl T92.heap) (by decide) (by decide) ?_
                      rintro _ T96 L96 X96 ⟨rfl, N96q, K96q, V96q⟩
                      have N_97 := Fr.app N_93 N96q
                      have f_98 := f_94.keep K96q (ninS ne_62 nin0)
                      have Z_99 := Nat.le_trans Z_95 K96q.1
                      have V96 : Arv Z T96.heap b61 k61 .byte (22 : Int32) (own_puts (own_w1 ng he ee) la mm nn 8) (.int (0 : Int32)) := V96q
                      show own_Go X96 (Q0 Z q0 q1 q2 p3 p4 p5 h0 n0) 2 41 459 #[oJ q0, oS, oJ q1, oS, oJ q2, oS, oI p3, oI p4, oI p5, oJ mn, oS, oJ mx, oS, oI ng, oI he, oI ee, oI mm, oI cr, oI cc, oR b1, oJ nn, oS, oI ng, oI bs, oI ln, oR b61, oI la, oU, oU, oU, oU, oU, oU, oU, oU, oU, oU, oU, oU, oU] []
                      refine own_st (fun _ k => XS.aload X96.here hx rfl (hb hby at_459) rfl rfl k) ?_
                      show own_Go X96 (Q0 Z q0 q1 q2 p3 p4 p5 h0 n0) 2 41 461 #[oJ q0, oS, oJ q1, oS, oJ q2, oS, oI p3, oI p4, oI p5, oJ mn, oS, oJ mx, oS, oI ng, oI he, oI ee, oI mm, oI cr, oI cc, oR b1, oJ nn, oS, oI ng, oI bs, oI ln, oR b61, oI la, oU, oU, oU, oU, oU, oU, oU, oU, oU, oU, oU, oU, oU] [(.ref b61)]
                      refine own_st (fun _ k => XS.iload X96.here hx rfl (hb hby at_461) rfl k) ?_
                      show own_Go X96 (Q0 Z q0 q1 q2 p3 p4 p5 h0 n0) 2 41 463 #[oJ q0, oS, oJ q1, oS, oJ q2, oS, oI p3, oI p4, oI p5, oJ mn, oS, oJ mx, oS, oI ng, oI he, oI ee, oI mm, oI cr, oI cc, oR b1, oJ nn, oS, oI ng, oI bs, oI ln, oR b61, oI la, oU, oU, oU, oU, oU, oU, oU, oU, oU, oU, oU, oU, oU] [(.int la), (.ref b61)]
                      refine own_st (fun _ k => XS.bipush X96.here hx rfl (hb hby at_463) k) ?_
                      show own_Go X96 (Q0 Z q0 q1 q2 p3 p4 p5 h0 n0) 2 41 465 #[oJ q0, oS, oJ q1, oS, oJ q2, oS, oI p3, oI p4, oI p5, oJ mn, oS, oJ mx, oS, oI ng, oI he, oI ee, oI mm, oI cr, oI cc, oR b1, oJ nn, oS, oI ng, oI bs, oI ln, oR b61, oI la, oU, oU, oU, oU, oU, oU, oU, oU, oU, oU, oU, oU, oU] [(.int (8 : Int32)), (.int la), (.ref b61)]
                      refine own_st (fun _ k => XS.isub X96.here hx rfl (hb hby at_465) rfl k) ?_
                      show own_Go X96 (Q0 Z q0 q1 q2 p3 p4 p5 h0 n0) 2 41 466 #[oJ q0, oS, oJ q1, oS, oJ q2, oS, oI p3, oI p4, oI p5, oJ mn, oS, oJ mx, oS, oI ng, oI he, oI ee, oI mm, oI cr, oI cc, oR b1, oJ nn, oS, oI ng, oI bs, oI ln, oR b61, oI la, oU, oU, oU, oU, oU, oU, oU, oU, oU, oU, oU, oU, oU] [(.int (la - (8 : Int32))), (.ref b61)]
                      refine own_st (fun _ k => XS.bipush X96.here hx rfl (hb hby at_466) k) ?_
                      show own_Go X96 (Q0 Z q0 q1 q2 p3 p4 p5 h0 n0) 2 41 468 #[oJ q0, oS, oJ q1, oS, oJ q2, oS, oI p3, oI p4, oI p5, oJ mn, oS, oJ mx, oS, oI ng, oI he, oI ee, oI mm, oI cr, oI cc, oR b1, oJ nn, oS, oI ng, oI bs, oI ln, oR b61, oI la, oU, oU, oU, oU, oU, oU, oU, oU, oU, oU, oU, oU, oU] [(.int (8 : Int32)), (.int (la - (8 : Int32))), (.ref b61)]
                      refine own_st (fun _ k => XS.iload X96.here hx rfl (hb hby at_468) rfl k) ?_
                      show own_Go X96 (Q0 Z q0 q1 q2 p3 p4 p5 h0 n0) 2 41 470 #[oJ q0, oS, oJ q1, oS, oJ q2, oS, oI p3, oI p4, oI p5, oJ mn, oS, oJ mx, oS, oI ng, oI he, oI ee, oI mm, oI cr, oI cc, oR b1, oJ nn, oS, oI ng, oI bs, oI ln, oR b61, oI la, oU, oU, oU, oU, oU, oU, oU, oU, oU, oU, oU, oU, oU] [(.int mm), (.int (8 : Int32)), (.int (la - (8 : Int32))), (.ref b61)]
                      refine own_st (fun _ k => XS.lload X96.here hx rfl (hb hby at_470) rfl k) ?_
                      show own_Go X96 (Q0 Z q0 q1 q2 p3 p4 p5 h0 n0) 2 41 472 #[oJ q0, oS, oJ q1, oS, oJ q2, oS, oI p3, oI p4, oI p5, oJ mn, oS, oJ mx, oS, oI ng, oI he, oI ee, oI mm, oI cr, oI cc, oR b1, oJ nn, oS, oI ng, oI bs, oI ln, oR b61, oI la, oU, oU, oU, oU, oU, oU, oU, oU, oU, oU, oU, oU, oU] [(.long nn), (.int mm), (.int (8 : Int32)), (.int (la - (8 : Int32))), (.ref b61)]
                      refine own_st (fun _ k => XS.aload X96.here hx rfl (hb hby at_472) rfl rfl k) ?_
                      show own_Go X96 (Q0 Z q0 q1 q2 p3 p4 p5 h0 n0) 2 41 474 #[oJ q0, oS, oJ q1, oS, oJ q2, oS, oI p3, oI p4, oI p5, oJ mn, oS, oJ mx, oS, oI ng, oI he, oI ee, oI mm, oI cr, oI cc, oR b1, oJ nn, oS, oI ng, oI bs, oI ln, oR b61, oI la, oU, oU, oU, oU, oU, oU, oU, oU, oU, oU, oU, oU, oU] [(.ref b1), (.long nn), (.int mm), (.int (8 : Int32)), (.int (la - (8 : Int32))), (.ref b61)]
                      refine own_callS (W := 0) X96 hx hZ hown (hw _ (List.mem_of_getElem? (i := 21) rfl)) (hw _ (List.mem_of_getElem? (i := 22) rfl)) (hw _ (List.mem_of_getElem? (i := 23) rfl)) (hw _ (List.mem_of_getElem? (i := 24) rfl)) (by decide) (rm1 l Z a0 hw [] b61 (la - (8 : Int32)) (8 : Int32) mm nn b1 k61 k1 (own_puts (own_w1 ng he ee) la mm nn 8) [(.long (1 : Int64)), (.long (10 : Int64)), (.long (100 : Int64)), (.long (1000 : Int64)), (.long (10000 : Int64)), (.long (100000 : Int64)), (.long (1000000 : Int64)), (.long (10000000 : Int64)), (.long (100000000 : Int64)), (.long (1000000000 : Int64)), (.long (10000000000 : Int64)), (.long (100000000000 : Int64)), (.long (1000000000000 : Int64)), (.long (10000000000000 : Int64)), (.long (100000000000000 : Int64)), (.long (1000000000000000 : Int64)), (.long (10000000000000000 : Int64)), (.long (100000000000000000 : Int64)), (.long (1000000000000000000 : Int64))] (100000000 : Int64) T96.heap n0 Z_99 V96 (own_len22 (own_l1 ng he ee) 8) G_63 f_98 ne_62 ⟨by decide, by decide⟩ rfl (by decide) (own_at (kk := 8) (own_len22 (own_l1 ng he ee) 8) hbB hmB hla' (by decide) (by decide))) (by decide) (by decide) (by rw [hml]; rfl) [(.ref b61), (.int (la - (8 : Int32))), (.int (8 : Int32)), (.int mm), (.long nn), (.ref b1)] [] (lenOf pd_0_0 rfl) rfl rfl (Nat.le_of_ble_eq_true rfl) (hb hby at_474) (Eq.refl T96.heap) (by decide) (by decide) ?_
                      rintro _ T100 L100 X100 ⟨rfl, N100q, K100q, V100q⟩
                      have N_101 := Fr.app N_97 N100q
                      have f_102 := f_98.keep K100q (ninS ne_62 nin0)
                      have Z_103 := Nat.le_trans Z_99 K100q.1
                      have V100 : Arv Z T100.heap b61 k61 .byte (22 : Int32) (own_puts (own_w1 ng he ee) la mm nn 9) (.int (0 : Int32)) := V100q
                      show own_Go X100 (Q0 Z q0 q1 q2 p3 p4 p5 h0 n0) 2 41 477 #[oJ q0, oS, oJ q1, oS, oJ q2, oS, oI p3, oI p4, oI p5, oJ mn, oS, oJ mx, oS, oI ng, oI he, oI ee, oI mm, oI cr, oI cc, oR b1, oJ nn, oS, oI ng, oI bs, oI ln, oR b61, oI la, oU, oU, oU, oU, oU, oU, oU, oU, oU, oU, oU, oU, oU] []
                      refine own_st (fun _ k => XS.aload X100.here hx rfl (hb hby at_477) rfl rfl k) ?_
                      show own_Go X100 (Q0 Z q0 q1 q2 p3 p4 p5 h0 n0) 2 41 479 #[oJ q0, oS, oJ q1, oS, oJ q2, oS, oI p3, oI p4, oI p5, oJ mn, oS, oJ mx, oS, oI ng, oI he, oI ee, oI mm, oI cr, oI cc, oR b1, oJ nn, oS, oI ng, oI bs, oI ln, oR b61, oI la, oU, oU, oU, oU, oU, oU, oU, oU, oU, oU, oU, oU, oU] [(.ref b61)]
                      refine own_st (fun _ k => XS.iload X100.here hx rfl (hb hby at_479) rfl k) ?_
                      show own_Go X100 (Q0 Z q0 q1 q2 p3 p4 p5 h0 n0) 2 41 481 #[oJ q0, oS, oJ q1, oS, oJ q2, oS, oI p3, oI p4, oI p5, oJ mn, oS, oJ mx, oS, oI ng, oI he, oI ee, oI mm, oI cr, oI cc, oR b1, oJ nn, oS, oI ng, oI bs, oI ln, oR b61, oI la, oU, oU, oU, oU, oU, oU, oU, oU, oU, oU, oU, oU, oU] [(.int la), (.ref b61)]
                      refine own_st (fun _ k => XS.bipush X100.here hx rfl (hb hby at_481) k) ?_
                      show own_Go X100 (Q0 Z q0 q1 q2 p3 p4 p5 h0 n0) 2 41 483 #[oJ q0, oS, oJ q1, oS, oJ q2, oS, oI p3, oI p4, oI p5, oJ mn, oS, oJ mx, oS, oI ng, oI he, oI ee, oI mm, oI cr, oI cc, oR b1, oJ nn, oS, oI ng, oI bs, oI ln, oR b61, oI la, oU, oU, oU, oU, oU, oU, oU, oU, oU, oU, oU, oU, oU] [(.int (9 : Int32)), (.int la), (.ref b61)]
                      refine own_st (fun _ k => XS.isub X100.here hx rfl (hb hby at_483) rfl k) ?_
                      show own_Go X100 (Q0 Z q0 q1 q2 p3 p4 p5 h0 n0) 2 41 484 #[oJ q0, oS, oJ q1, oS, oJ q2, oS, oI p3, oI p4, oI p5, oJ mn, oS, oJ mx, oS, oI ng, oI he, oI ee, oI mm, oI cr, oI cc, oR b1, oJ nn, oS, oI ng, oI bs, oI ln, oR b61, oI la, oU, oU, oU, oU, oU, oU, oU, oU, oU, oU, oU, oU, oU] [(.int (la - (9 : Int32))), (.ref b61)]
                      refine own_st (fun _ k => XS.bipush X100.here hx rfl (hb hby at_484) k) ?_
                      show own_Go X100 (Q0 Z q0 q1 q2 p3 p4 p5 h0 n0) 2 41 486 #[oJ q0, oS, oJ q1, oS, oJ q2, oS, oI p3, oI p4, oI p5, oJ mn, oS, oJ mx, oS, oI ng, oI he, oI ee, oI mm, oI cr, oI cc, oR b1, oJ nn, oS, oI ng, oI bs, oI ln, oR b61, oI la, oU, oU, oU, oU, oU, oU, oU, oU, oU, oU, oU, oU, oU] [(.int (9 : Int32)), (.int (la - (9 : Int32))), (.ref b61)]
                      refine own_st (fun _ k => XS.iload X100.here hx rfl (hb hby at_486) rfl k) ?_
                      show own_Go X100 (Q0 Z q0 q1 q2 p3 p4 p5 h0 n0) 2 41 488 #[oJ q0, oS, oJ q1, oS, oJ q2, oS, oI p3, oI p4, oI p5, oJ mn, oS, oJ mx, oS, oI ng, oI he, oI ee, oI mm, oI cr, oI cc, oR b1, oJ nn, oS, oI ng, oI bs, oI ln, oR b61, oI la, oU, oU, oU, oU, oU, oU, oU, oU, oU, oU, oU, oU, oU] [(.int mm), (.int (9 : Int32)), (.int (la - (9 : Int32))), (.ref b61)]
                      refine own_st (fun _ k => XS.lload X100.here hx rfl (hb hby at_488) rfl k) ?_
                      show own_Go X100 (Q0 Z q0 q1 q2 p3 p4 p5 h0 n0) 2 41 490 #[oJ q0, oS, oJ q1, oS, oJ q2, oS, oI p3, oI p4, oI p5, oJ mn, oS, oJ mx, oS, oI ng, oI he, oI ee, oI mm, oI cr, oI cc, oR b1, oJ nn, oS, oI ng, oI bs, oI ln, oR b61, oI la, oU, oU, oU, oU, oU, oU, oU, oU, oU, oU, oU, oU, oU] [(.long nn), (.int mm), (.int (9 : Int32)), (.int (la - (9 : Int32))), (.ref b61)]
                      refine own_st (fun _ k => XS.aload X100.here hx rfl (hb hby at_490) rfl rfl k) ?_
                      show own_Go X100 (Q0 Z q0 q1 q2 p3 p4 p5 h0 n0) 2 41 492 #[oJ q0, oS, oJ q1, oS, oJ q2, oS, oI p3, oI p4, oI p5, oJ mn, oS, oJ mx, oS, oI ng, oI he, oI ee, oI mm, oI cr, oI cc, oR b1, oJ nn, oS, oI ng, oI bs, oI ln, oR b61, oI la, oU, oU, oU, oU, oU, oU, oU, oU, oU, oU, oU, oU, oU] [(.ref b1), (.long nn), (.int mm), (.int (9 : Int32)), (.int (la - (9 : Int32))), (.ref b61)]
                      refine own_callS (W := 0) X100 hx hZ hown (hw _ (List.mem_of_getElem? (i := 21) rfl)) (hw _ (List.mem_of_getElem? (i := 22) rfl)) (hw _ (List.mem_of_getElem? (i := 23) rfl)) (hw _ (List.mem_of_getElem? (i := 24) rfl)) (by decide) (rm1 l Z a0 hw [] b61 (la - (9 : Int32)) (9 : Int32) mm nn b1 k61 k1 (own_puts (own_w1 ng he ee) la mm nn 9) [(.long (1 : Int64)), (.long (10 : Int64)), (.long (100 : Int64)), (.long (1000 : Int64)), (.long (10000 : Int64)), (.long (100000 : Int64)), (.long (1000000 : Int64)), (.long (10000000 : Int64)), (.long (100000000 : Int64)), (.long (1000000000 : Int64)), (.long (10000000000 : Int64)), (.long (100000000000 : Int64)), (.long (1000000000000 : Int64)), (.long (10000000000000 : Int64)), (.long (100000000000000 : Int64)), (.long (1000000000000000 : Int64)), (.long (10000000000000000 : Int64)), (.long (100000000000000000 : Int64)), (.long (1000000000000000000 : Int64))] (1000000000 : Int64) T100.heap n0 Z_103 V100 (own_len22 (own_l1 ng he ee) 9) G_63 f_102 ne_62 ⟨by decide, by decide⟩ rfl (by decide) (own_at (kk := 9) (own_len22 (own_l1 ng he ee) 9) hbB hmB hla' (by decide) (by decide))) (by decide) (by decide) (by rw [hml]; rfl) [(.ref b61), (.int (la - (9 : Int32))), (.int (9 : Int32)), (.int mm), (.long nn), (.ref b1)] [] (lenOf pd_0_0 rfl) rfl rfl (Nat.le_of_ble_eq_true rfl) (hb hby at_492) (Eq.refl T100.heap) (by decide) (by decide) ?_
                      rintro _ T104 L104 X104 ⟨rfl, N104q, K104q, V104q⟩
                      have N_105 := Fr.app N_101 N104q
                      have f_106 := f_102.keep K104q (ninS ne_62 nin0)
                      have Z_107 := Nat.le_trans Z_103 K104q.1
                      have V104 : Arv Z T104.heap b61 k61 .byte (22 : Int32) (own_puts (own_w1 ng he ee) la mm nn 10) (.int (0 : Int32)) := V104q
                      show own_Go X104 (Q0 Z q0 q1 q2 p3 p4 p5 h0 n0) 2 41 495 #[oJ q0, oS, oJ q1, oS, oJ q2, oS, oI p3, oI p4, oI p5, oJ mn, oS, oJ mx, oS, oI ng, oI he, oI ee, oI mm, oI cr, oI cc, oR b1, oJ nn, oS, oI ng, oI bs, oI ln, oR b61, oI la, oU, oU, oU, oU, oU, oU, oU, oU, oU, oU, oU, oU, oU] []
                      refine own_st (fun _ k => XS.aload X104.here hx rfl (hb hby at_495) rfl rfl k) ?_
                      show own_Go X104 (Q0 Z q0 q1 q2 p3 p4 p5 h0 n0) 2 41 497 #[oJ q0, oS, oJ q1, oS, oJ q2, oS, oI p3, oI p4, oI p5, oJ mn, oS, oJ mx, oS, oI ng, oI he, oI ee, oI mm, oI cr, oI cc, oR b1, oJ nn, oS, oI ng, oI bs, oI ln, oR b61, oI la, oU, oU, oU, oU, oU, oU, oU, oU, oU, oU, oU, oU, oU] [(.ref b61)]
                      refine own_st (fun _ k => XS.iload X104.here hx rfl (hb hby at_497) rfl k) ?_
                      show own_Go X104 (Q0 Z q0 q1 q2 p3 p4 p5 h0 n0) 2 41 499 #[oJ q0, oS, oJ q1, oS, oJ q2, oS, oI p3, oI p4, oI p5, oJ mn, oS, oJ mx, oS, oI ng, oI he, oI ee, oI mm, oI cr, oI cc, oR b1, oJ nn, oS, oI ng, oI bs, oI ln, oR b61, oI la, oU, oU, oU, oU, oU, oU, oU, oU, oU, oU, oU, oU, oU] [(.int la), (.ref b61)]
                      refine own_st (fun _ k => XS.bipush X104.here hx rfl (hb hby at_499) k) ?_
                      show own_Go X104 (Q0 Z q0 q1 q2 p3 p4 p5 h0 n0) 2 41 501 #[oJ q0, oS, oJ q1, oS, oJ q2, oS, oI p3, oI p4, oI p5, oJ mn, oS, oJ mx, oS, oI ng, oI he, oI ee, oI mm, oI cr, oI cc, oR b1, oJ nn, oS, oI ng, oI bs, oI ln, oR b61, oI la, oU, oU, oU, oU, oU, oU, oU, oU, oU, oU, oU, oU, oU] [(.int (10 : Int32)), (.int la), (.ref b61)]
                      refine own_st (fun _ k => XS.isub X104.here hx rfl (hb hby at_501) rfl k) ?_
                      show own_Go X104 (Q0 Z q0 q1 q2 p3 p4 p5 h0 n0) 2 41 502 #[oJ q0, oS, oJ q1, oS, oJ q2, oS, oI p3, oI p4, oI p5, oJ mn, oS, oJ mx, oS, oI ng, oI he, oI ee, oI mm, oI cr, oI cc, oR b1, oJ nn, oS, oI ng, oI bs, oI ln, oR b61, oI la, oU, oU, oU, oU, oU, oU, oU, oU, oU, oU, oU, oU, oU] [(.int (la - (10 : Int32))), (.ref b61)]
                      refine own_st (fun _ k => XS.bipush X104.here hx rfl (hb hby at_502) k) ?_
                      show own_Go X104 (Q0 Z q0 q1 q2 p3 p4 p5 h0 n0) 2 41 504 #[oJ q0, oS, oJ q1, oS, oJ q2, oS, oI p3, oI p4, oI p5, oJ mn, oS, oJ mx, oS, oI ng, oI he, oI ee, oI mm, oI cr, oI cc, oR b1, oJ nn, oS, oI ng, oI bs, oI ln, oR b61, oI la, oU, oU, oU, oU, oU, oU, oU, oU, oU, oU, oU, oU, oU] [(.int (10 : Int32)), (.int (la - (10 : Int32))), (.ref b61)]
                      refine own_st (fun _ k => XS.iload X104.here hx rfl (hb hby at_504) rfl k) ?_
                      show own_Go X104 (Q0 Z q0 q1 q2 p3 p4 p5 h0 n0) 2 41 506 #[oJ q0, oS, oJ q1, oS, oJ q2, oS, oI p3, oI p4, oI p5, oJ mn, oS, oJ mx, oS, oI ng, oI he, oI ee, oI mm, oI cr, oI cc, oR b1, oJ nn, oS, oI ng, oI bs, oI ln, oR b61, oI la, oU, oU, oU, oU, oU, oU, oU, oU, oU, oU, oU, oU, oU] [(.int mm), (.int (10 : Int32)), (.int (la - (10 : Int32))), (.ref b61)]
                      refine own_st (fun _ k => XS.lload X104.here hx rfl (hb hby at_506) rfl k) ?_
                      show own_Go X104 (Q0 Z q0 q1 q2 p3 p4 p5 h0 n0) 2 41 508 #[oJ q0, oS, oJ q1, oS, oJ q2, oS, oI p3, oI p4, oI p5, oJ mn, oS, oJ mx, oS, oI ng, oI he, oI ee, oI mm, oI cr, oI cc, oR b1, oJ nn, oS, oI ng, oI bs, oI ln, oR b61, oI la, oU, oU, oU, oU, oU, oU, oU, oU, oU, oU, oU, oU, oU] [(.long nn), (.int mm), (.int (10 : Int32)), (.int (la - (10 : Int32))), (.ref b61)]
                      refine own_st (fun _ k => XS.aload X104.here hx rfl (hb hby at_508) rfl rfl k) ?_
                      show own_Go X104 (Q0 Z q0 q1 q2 p3 p4 p5 h0 n0) 2 41 510 #[oJ q0, oS, oJ q1, oS, oJ q2, oS, oI p3, oI p4, oI p5, oJ mn, oS, oJ mx, oS, oI ng, oI he, oI ee, oI mm, oI cr, oI cc, oR b1, oJ nn, oS, oI ng, oI bs, oI ln, oR b61, oI la, oU, oU, oU, oU, oU, oU, oU, oU, oU, oU, oU, oU, oU] [(.ref b1), (.long nn), (.int mm), (.int (10 : Int32)), (.int (la - (10 : Int32))), (.ref b61)]
                      refine own_callS (W := 0) X104 hx hZ hown (hw _ (List.mem_of_getElem? (i := 21) rfl)) (hw _ (List.mem_of_getElem? (i := 22) rfl)) (hw _ (List.mem_of_getElem? (i := 23) rfl)) (hw _ (List.mem_of_getElem? (i := 24) rfl)) (by decide) (rm1 l Z a0 hw [] b61 (la - (10 : Int32)) (10 : Int32) mm nn b1 k61 k1 (own_puts (own_w1 ng he ee) la mm nn 10) [(.long (1 : Int64)), (.long (10 : Int64)), (.long (100 : Int64)), (.long (1000 : Int64)), (.long (10000 : Int64)), (.long (100000 : Int64)), (.long (1000000 : Int64)), (.long (10000000 : Int64)), (.long (100000000 : Int64)), (.long (1000000000 : Int64)), (.long (10000000000 : Int64)), (.long (100000000000 : Int64)), (.long (1000000000000 : Int64)), (.long (10000000000000 : Int64)), (.long (100000000000000 : Int64)), (.long (1000000000000000 : Int64)), (.long (10000000000000000 : Int64)), (.long (100000000000000000 : Int64)), (.long (1000000000000000000 : Int64))] (10000000000 : Int64) T104.heap n0 Z_107 V104 (own_len22 (own_l1 ng he ee) 10) G_63 f_106 ne_62 ⟨by decide, by decide⟩ rfl (by decide) (own_at (kk := 10) (own_len22 (own_l1 ng he ee) 10) hbB hmB hla' (by decide) (by decide))) (by decide) (by decide) (by rw [hml]; rfl) [(.ref b61), (.int (la - (10 : Int32))), (.int (10 : Int32)), (.int mm), (.long nn), (.ref b1)] [] (lenOf pd_0_0 rfl) rfl rfl (Nat.le_of_ble_eq_true rfl) (hb hby at_510) (Eq.refl T104.heap) (by decide) (by decide) ?_
                      rintro _ T108 L108 X108 ⟨rfl, N108q, K108q, V108q⟩
                      have N_109 := Fr.app N_105 N108q
                      have f_110 := f_106.keep K108q (ninS ne_62 nin0)
                      have Z_111 := Nat.le_trans Z_107 K108q.1
                      have V108 : Arv Z T108.heap b61 k61 .byte (22 : Int32) (own_puts (own_w1 ng he ee) la mm nn 11) (.int (0 : Int32)) := V108q
                      show own_Go X108 (Q0 Z q0 q1 q2 p3 p4 p5 h0 n0) 2 41 513 #[oJ q0, oS, oJ q1, oS, oJ q2, oS, oI p3, oI p4, oI p5, oJ mn, oS, oJ mx, oS, oI ng, oI he, oI ee, oI mm, oI cr, oI cc, oR b1, oJ nn, oS, oI ng, oI bs, oI ln, oR b61, oI la, oU, oU, oU, oU, oU, oU, oU, oU, oU, oU, oU, oU, oU] []
                      refine own_st (fun _ k => XS.aload X108.here hx rfl (hb hby at_513) rfl rfl k) ?_
                      show own_Go X108 (Q0 Z q0 q1 q2 p3 p4 p5 h0 n0) 2 41 515 #[oJ q0, oS, oJ q1, oS, oJ q2, oS, oI p3, oI p4, oI p5, oJ mn, oS, oJ mx, oS, oI ng, oI he, oI ee, oI mm, oI cr, oI cc, oR b1, oJ nn, oS, oI ng, oI bs, oI ln, oR b61, oI la, oU, oU, oU, oU, oU, oU, oU, oU, oU, oU, oU, oU, oU] [(.ref b61)]
                      refine own_st (fun _ k => XS.iload X108.here hx rfl (hb hby at_515) rfl k) ?_
                      show own_Go X108 (Q0 Z q0 q1 q2 p3 p4 p5 h0 n0) 2 41 517 #[oJ q0, oS, oJ q1, oS, oJ q2, oS, oI p3, oI p4, oI p5, oJ mn, oS, oJ mx, oS, oI ng, oI he, oI ee, oI mm, oI cr, oI cc, oR b1, oJ nn, oS, oI ng, oI bs, oI ln, oR b61, oI la, oU, oU, oU, oU, oU, oU, oU, oU, oU, oU, oU, oU, oU] [(.int la), (.ref b61)]
                      refine own_st (fun _ k => XS.bipush X108.here hx rfl (hb hby at_517) k) ?_
                      show own_Go X108 (Q0 Z q0 q1 q2 p3 p4 p5 h0 n0) 2 41 519 #[oJ q0, oS, oJ q1, oS, oJ q2, oS, oI p3, oI p4, oI p5, oJ mn, oS, oJ mx, oS, oI ng, oI he, oI ee, oI mm, oI cr, oI cc, oR b1, oJ nn, oS, oI ng, oI bs, oI ln, oR b61, oI la, oU, oU, oU, oU, oU, oU, oU, oU, oU, oU, oU, oU, oU] [(.int (11 : Int32)), (.int la), (.ref b61)]
                      refine own_st (fun _ k => XS.isub X108.here hx rfl (hb hby at_519) rfl k) ?_
                      show own_Go X108 (Q0 Z q0 q1 q2 p3 p4 p5 h0 n0) 2 41 520 #[oJ q0, oS, oJ q1, oS, oJ q2, oS, oI p3, oI p4, oI p5, oJ mn, oS, oJ mx, oS, oI ng, oI he, oI ee, oI mm, oI cr, oI cc, oR b1, oJ nn, oS, oI ng, oI bs, oI ln, oR b61, oI la, oU, oU, oU, oU, oU, oU, oU, oU, oU, oU, oU, oU, oU] [(.int (la - (11 : Int32))), (.ref b61)]
                      refine own_st (fun _ k => XS.bipush X108.here hx rfl (hb hby at_520) k) ?_
                      show own_Go X108 (Q0 Z q0 q1 q2 p3 p4 p5 h0 n0) 2 41 522 #[oJ q0, oS, oJ q1, oS, oJ q2, oS, oI p3, oI p4, oI p5, oJ mn, oS, oJ mx, oS, oI ng, oI he, oI ee, oI mm, oI cr, oI cc, oR b1, oJ nn, oS, oI ng, oI bs, oI ln, oR b61, oI la, oU, oU, oU, oU, oU, oU, oU, oU, oU, oU, oU, oU, oU] [(.int (11 : Int32)), (.int (la - (11 : Int32))), (.ref b61)]
                      refine own_st (fun _ k => XS.iload X108.here hx rfl (hb hby at_522) rfl k) ?_
                      show own_Go X108 (Q0 Z q0 q1 q2 p3 p4 p5 h0 n0) 2 41 524 #[oJ q0, oS, oJ q1, oS, oJ q2, oS, oI p3, oI p4, oI p5, oJ mn, oS, oJ mx, oS, oI ng, oI he, oI ee, oI mm, oI cr, oI cc, oR b1, oJ nn, oS, oI ng, oI bs, oI ln, oR b61, oI la, oU, oU, oU, oU, oU, oU, oU, oU, oU, oU, oU, oU, oU] [(.int mm), (.int (11 : Int32)), (.int (la - (11 : Int32))), (.ref b61)]
                      refine own_st (fun _ k => XS.lload X108.here hx rfl (hb hby at_524) rfl k) ?_
                      show own_Go X108 (Q0 Z q0 q1 q2 p3 p4 p5 h0 n0) 2 41 526 #[oJ q0, oS, oJ q1, oS, oJ q2, oS, oI p3, oI p4, oI p5, oJ mn, oS, oJ mx, oS, oI ng, oI he, oI ee, oI mm, oI cr, oI cc, oR b1, oJ nn, oS, oI ng, oI bs, oI ln, oR b61, oI la, oU, oU, oU, oU, oU, oU, oU, oU, oU, oU, oU, oU, oU] [(.long nn), (.int mm), (.int (11 : Int32)), (.int (la - (11 : Int32))), (.ref b61)]
                      refine own_st (fun _ k => XS.aload X108.here hx rfl (hb hby at_526) rfl rfl k) ?_
                      show own_Go X108 (Q0 Z q0 q1 q2 p3 p4 p5 h0 n0) 2 41 528 #[oJ q0, oS, oJ q1, oS, oJ q2, oS, oI p3, oI p4, oI p5, oJ mn, oS, oJ mx, oS, oI ng, oI he, oI ee, oI mm, oI cr, oI cc, oR b1, oJ nn, oS, oI ng, oI bs, oI ln, oR b61, oI la, oU, oU, oU, oU, oU, oU, oU, oU, oU, oU, oU, oU, oU] [(.ref b1), (.long nn), (.int mm), (.int (11 : Int32)), (.int (la - (11 : Int32))), (.ref b61)]
                      refine own_callS (W := 0) X108 hx hZ hown (hw _ (List.mem_of_getElem? (i := 21) rfl)) (hw _ (List.mem_of_getElem? (i := 22) rfl)) (hw _ (List.mem_of_getElem? (i := 23) rfl)) (hw _ (List.mem_of_getElem? (i := 24) rfl)) (by decide) (rm1 l Z a0 hw [] b61 (la - (11 : Int32)) (11 : Int32) mm nn b1 k61 k1 (own_puts (own_w1 ng he ee) la mm nn 11) [(.long (1 : Int64)), (.long (10 : Int64)), (.long (100 : Int64)), (.long (1000 : Int64)), (.long (10000 : Int64)), (.long (100000 : Int64)), (.long (1000000 : Int64)), (.long (10000000 : Int64)), (.long (100000000 : Int64)), (.long (1000000000 : Int64)), (.long (10000000000 : Int64)), (.long (100000000000 : Int64)), (.long (1000000000000 : Int64)), (.long (10000000000000 : Int64)), (.long (100000000000000 : Int64)), (.long (1000000000000000 : Int64)), (.long (10000000000000000 : Int64)), (.long (100000000000000000 : Int64)), (.long (1000000000000000000 : Int64))] (100000000000 : Int64) T108.heap n0 Z_111 V108 (own_len22 (own_l1 ng he ee) 11) G_63 f_110 ne_62 ⟨by decide, by decide⟩ rfl (by decide) (own_at (kk := 11) (own_len22 (own_l1 ng he ee) 11) hbB hmB hla' (by decide) (by decide))) (by decide) (by decide) (by rw [hml]; rfl) [(.ref b61), (.int (la - (11 : Int32))), (.int (11 : Int32)), (.int mm), (.long nn), (.ref b1)] [] (lenOf pd_0_0 rfl) rfl rfl (Nat.le_of_ble_eq_true rfl) (hb hby at_528) (Eq.refl T108.heap) (by decide) (by decide) ?_
                      rintro _ T112 L112 X112 ⟨rfl, N112q, K112q, V112q⟩
                      have N_113 := Fr.app N_109 N112q
                      have f_114 := f_110.keep K112q (ninS ne_62 nin0)
                      have Z_115 := Nat.le_trans Z_111 K112q.1
                      have V112 : Arv Z T112.heap b61 k61 .byte (22 : Int32) (own_puts (own_w1 ng he ee) la mm nn 12) (.int (0 : Int32)) := V112q
                      show own_Go X112 (Q0 Z q0 q1 q2 p3 p4 p5 h0 n0) 2 41 531 #[oJ q0, oS, oJ q1, oS, oJ q2, oS, oI p3, oI p4, oI p5, oJ mn, oS, oJ mx, oS, oI ng, oI he, oI ee, oI mm, oI cr, oI cc, oR b1, oJ nn, oS, oI ng, oI bs, oI ln, oR b61, oI la, oU, oU, oU, oU, oU, oU, oU, oU, oU, oU, oU, oU, oU] []
                      refine own_st (fun _ k => XS.aload X112.here hx rfl (hb hby at_531) rfl rfl k) ?_
                      show own_Go X112 (Q0 Z q0 q1 q2 p3 p4 p5 h0 n0) 2 41 533 #[oJ q0, oS, oJ q1, oS, oJ q2, oS, oI p3, oI p4, oI p5, oJ mn, oS, oJ mx, oS, oI ng, oI he, oI ee, oI mm, oI cr, oI cc, oR b1, oJ nn, oS, oI ng, oI bs, oI ln, oR b61, oI la, oU, oU, oU, oU, oU, oU, oU, oU, oU, oU, oU, oU, oU] [(.ref b61)]
                      refine own_st (fun _ k => XS.iload X112.here hx rfl (hb hby at_533) rfl k) ?_
                      show own_Go X112 (Q0 Z q0 q1 q2 p3 p4 p5 h0 n0) 2 41 535 #[oJ q0, oS, oJ q1, oS, oJ q2, oS, oI p3, oI p4, oI p5, oJ mn, oS, oJ mx, oS, oI ng, oI he, oI ee, oI mm, oI cr, oI cc, oR b1, oJ nn, oS, oI ng, oI bs, oI ln, oR b61, oI la, oU, oU, oU, oU, oU, oU, oU, oU, oU, oU, oU, oU, oU] [(.int la), (.ref b61)]
                      refine own_st (fun _ k => XS.bipush X112.here hx rfl (hb hby at_535) k) ?_
                      show own_Go X112 (Q0 Z q0 q1 q2 p3 p4 p5 h0 n0) 2 41 537 #[oJ q0, oS, oJ q1, oS, oJ q2, oS, oI p3, oI p4, oI p5, oJ mn, oS, oJ mx, oS, oI ng, oI he, oI ee, oI mm, oI cr, oI cc, oR b1, oJ nn, oS, oI ng, oI bs, oI ln, oR b61, oI la, oU, oU, oU, oU, oU, oU, oU, oU, oU, oU, oU, oU, oU] [(.int (12 : Int32)), (.int la), (.ref b61)]
                      refine own_st (fun _ k => XS.isub X112.here hx rfl (hb hby at_537) rfl k) ?_
                      show own_Go X112 (Q0 Z q0 q1 q2 p3 p4 p5 h0 n0) 2 41 538 #[oJ q0, oS, oJ q1, oS, oJ q2, oS, oI p3, oI p4, oI p5, oJ mn, oS, oJ mx, oS, oI ng, oI he, oI ee, oI mm, oI cr, oI cc, oR b1, oJ nn, oS, oI ng, oI bs, oI ln, oR b61, oI la, oU, oU, oU, oU, oU, oU, oU, oU, oU, oU, oU, oU, oU] [(.int (la - (12 : Int32))), (.ref b61)]
                      refine own_st (fun _ k => XS.bipush X112.here hx rfl (hb hby at_538) k) ?_
                      show own_Go X112 (Q0 Z q0 q1 q2 p3 p4 p5 h0 n0) 2 41 540 #[oJ q0, oS, oJ q1, oS, oJ q2, oS, oI p3, oI p4, oI p5, oJ mn, oS, oJ mx, oS, oI ng, oI he, oI ee, oI mm, oI cr, oI cc, oR b1, oJ nn, oS, oI ng, oI bs, oI ln, oR b61, oI la, oU, oU, oU, oU, oU, oU, oU, oU, oU, oU, oU, oU, oU] [(.int (12 : Int32)), (.int (la - (12 : Int32))), (.ref b61)]
                      refine own_st (fun _ k => XS.iload X112.here hx rfl (hb hby at_540) rfl k) ?_
                      show own_Go X112 (Q0 Z q0 q1 q2 p3 p4 p5 h0 n0) 2 41 542 #[oJ q0, oS, oJ q1, oS, oJ q2, oS, oI p3, oI p4, oI p5, oJ mn, oS, oJ mx, oS, oI ng, oI he, oI ee, oI mm, oI cr, oI cc, oR b1, oJ nn, oS, oI ng, oI bs, oI ln, oR b61, oI la, oU, oU, oU, oU, oU, oU, oU, oU, oU, oU, oU, oU, oU] [(.int mm), (.int (12 : Int32)), (.int (la - (12 : Int32))), (.ref b61)]
                      refine own_st (fun _ k => XS.lload X112.here hx rfl (hb hby at_542) rfl k) ?_
                      show own_Go X112 (Q0 Z q0 q1 q2 p3 p4 p5 h0 n0) 2 41 544 #[oJ q0, oS, oJ q1, oS, oJ q2, oS, oI p3, oI p4, oI p5, oJ mn, oS, oJ mx, oS, oI ng, oI he, oI ee, oI mm, oI cr, oI cc, oR b1, oJ nn, oS, oI ng, oI bs, oI ln, oR b61, oI la, oU, oU, oU, oU, oU, oU, oU, oU, oU, oU, oU, oU, oU] [(.long nn), (.int mm), (.int (12 : Int32)), (.int (la - (12 : Int32))), (.ref b61)]
                      refine own_st (fun _ k => XS.aload X112.here hx rfl (hb hby at_544) rfl rfl k) ?_
                      show own_Go X112 (Q0 Z q0 q1 q2 p3 p4 p5 h0 n0) 2 41 546 #[oJ q0, oS, oJ q1, oS, oJ q2, oS, oI p3, oI p4, oI p5, oJ mn, oS, oJ mx, oS, oI ng, oI he, oI ee, oI mm, oI cr, oI cc, oR b1, oJ nn, oS, oI ng, oI bs, oI ln, oR b61, oI la, oU, oU, oU, oU, oU, oU, oU, oU, oU, oU, oU, oU, oU] [(.ref b1), (.long nn), (.int mm), (.int (12 : Int32)), (.int (la - (12 : Int32))), (.ref b61)]
                      refine own_callS (W := 0) X112 hx hZ hown (hw _ (List.mem_of_getElem? (i := 21) rfl)) (hw _ (List.mem_of_getElem? (i := 22) rfl)) (hw _ (List.mem_of_getElem? (i := 23) rfl)) (hw _ (List.mem_of_getElem? (i := 24) rfl)) (by decide) (rm1 l Z a0 hw [] b61 (la - (12 : Int32)) (12 : Int32) mm nn b1 k61 k1 (own_puts (own_w1 ng he ee) la mm nn 12) [(.long (1 : Int64)), (.long (10 : Int64)), (.long (100 : Int64)), (.long (1000 : Int64)), (.long (10000 : Int64)), (.long (100000 : Int64)), (.long (1000000 : Int64)), (.long (10000000 : Int64)), (.long (100000000 : Int64)), (.long (1000000000 : Int64)), (.long (10000000000 : Int64)), (.long (100000000000 : Int64)), (.long (1000000000000 : Int64)), (.long (10000000000000 : Int64)), (.long (100000000000000 : Int64)), (.long (1000000000000000 : Int64)), (.long (10000000000000000 : Int64)), (.long (100000000000000000 : Int64)), (.long (1000000000000000000 : Int64))] (1000000000000 : Int64) T112.heap n0 Z_115 V112 (own_len22 (own_l1 ng he ee) 12) G_63 f_114 ne_62 ⟨by decide, by decide⟩ rfl (by decide) (own_at (kk := 12) (own_len22 (own_l1 ng he ee) 12) hbB hmB hla' (by decide) (by decide))) (by decide) (by decide) (by rw [hml]; rfl) [(.ref b61), (.int (la - (12 : Int32))), (.int (12 : Int32)), (.int mm), (.long nn), (.ref b1)] [] (lenOf pd_0_0 rfl) rfl rfl (Nat.le_of_ble_eq_true rfl) (hb hby at_546) (Eq.refl T112.heap) (by decide) (by decide) ?_
                      rintro _ T116 L116 X116 ⟨rfl, N116q, K116q, V116q⟩
                      have N_117 := Fr.app N_113 N116q
                      have f_118 := f_114.keep K116q (ninS ne_62 nin0)
                      have Z_119 := Nat.le_trans Z_115 K116q.1
                      have V116 : Arv Z T116.heap b61 k61 .byte (22 : Int32) (own_puts (own_w1 ng he ee) la mm nn 13) (.int (0 : Int32)) := V116q
                      show own_Go X116 (Q0 Z q0 q1 q2 p3 p4 p5 h0 n0) 2 41 549 #[oJ q0, oS, oJ q1, oS, oJ q2, oS, oI p3, oI p4, oI p5, oJ mn, oS, oJ mx, oS, oI ng, oI he, oI ee, oI mm, oI cr, oI cc, oR b1, oJ nn, oS, oI ng, oI bs, oI ln, oR b61, oI la, oU, oU, oU, oU, oU, oU, oU, oU, oU, oU, oU, oU, oU] []
                      refine own_st (fun _ k => XS.aload X116.here hx rfl (hb hby at_549) rfl rfl k) ?_
                      show own_Go X116 (Q0 Z q0 q1 q2 p3 p4 p5 h0 n0) 2 41 551 #[oJ q0, oS, oJ q1, oS, oJ q2, oS, oI p3, oI p4, oI p5, oJ mn, oS, oJ mx, oS, oI ng, oI he, oI ee, oI mm, oI cr, oI cc, oR b1, oJ nn, oS, oI ng, oI bs, oI ln, oR b61, oI la, oU, oU, oU, oU, oU, oU, oU, oU, oU, oU, oU, oU, oU] [(.ref b61)]
                      refine own_st (fun _ k => XS.iload X116.here hx rfl (hb hby at_551) rfl k) ?_
                      show own_Go X116 (Q0 Z q0 q1 q2 p3 p4 p5 h0 n0) 2 41 553 #[oJ q0, oS, oJ q1, oS, oJ q2, oS, oI p3, oI p4, oI p5, oJ mn, oS, oJ mx, oS, oI ng, oI he, oI ee, oI mm, oI cr, oI cc, oR b1, oJ nn, oS, oI ng, oI bs, oI ln, oR b61, oI la, oU, oU, oU, oU, oU, oU, oU, oU, oU, oU, oU, oU, oU] [(.int la), (.ref b61)]
                      refine own_st (fun _ k => XS.bipush X116.here hx rfl (hb hby at_553) k) ?_
                      show own_Go X116 (Q0 Z q0 q1 q2 p3 p4 p5 h0 n0) 2 41 555 #[oJ q0, oS, oJ q1, oS, oJ q2, oS, oI p3, oI p4, oI p5, oJ mn, oS, oJ mx, oS, oI ng, oI he, oI ee, oI mm, oI cr, oI cc, oR b1, oJ nn, oS, oI ng, oI bs, oI ln, oR b61, oI la, oU, oU, oU, oU, oU, oU, oU, oU, oU, oU, oU, oU, oU] [(.int (13 : Int32)), (.int la), (.ref b61)]
                      refine own_st (fun _ k => XS.isub X116.here hx rfl (hb hby at_555) rfl k) ?_
                      show own_Go X116 (Q0 Z q0 q1 q2 p3 p4 p5 h0 n0) 2 41 556 #[oJ q0, oS, oJ q1, oS, oJ q2, oS, oI p3, oI p4, oI p5, oJ mn, oS, oJ mx, oS, oI ng, oI he, oI ee, oI mm, oI cr, oI cc, oR b1, oJ nn, oS, oI ng, oI bs, oI ln, oR b61, oI la, oU, oU, oU, oU, oU, oU, oU, oU, oU, oU, oU, oU, oU] [(.int (la - (13 : Int32))), (.ref b61)]
                      refine own_st (fun _ k => XS.bipush X116.here hx rfl (hb hby at_556) k) ?_
                      show own_Go X116 (Q0 Z q0 q1 q2 p3 p4 p5 h0 n0) 2 41 558 #[oJ q0, oS, oJ q1, oS, oJ q2, oS, oI p3, oI p4, oI p5, oJ mn, oS, oJ mx, oS, oI ng, oI he, oI ee, oI mm, oI cr, oI cc, oR b1, oJ nn, oS, oI ng, oI bs, oI ln, oR b61, oI la, oU, oU, oU, oU, oU, oU, oU, oU, oU, oU, oU, oU, oU] [(.int (13 : Int32)), (.int (la - (13 : Int32))), (.ref b61)]
                      refine own_st (fun _ k => XS.iload X116.here hx rfl (hb hby at_558) rfl k) ?_
                      show own_Go X116 (Q0 Z q0 q1 q2 p3 p4 p5 h0 n0) 2 41 560 #[oJ q0, oS, oJ q1, oS, oJ q2, oS, oI p3, oI p4, oI p5, oJ mn, oS, oJ mx, oS, oI ng, oI he, oI ee, oI mm, oI cr, oI cc, oR b1, oJ nn, oS, oI ng, oI bs, oI ln, oR b61, oI la, oU, oU, oU, oU, oU, oU, oU, oU, oU, oU, oU, oU, oU] [(.int mm), (.int (13 : Int32)), (.int (la - (13 : Int32))), (.ref b61)]
                      refine own_st (fun _ k => XS.lload X116.here hx rfl (hb hby at_560) rfl k) ?_
                      show own_Go X116 (Q0 Z q0 q1 q2 p3 p4 p5 h0 n0) 2 41 562 #[oJ q0, oS, oJ q1, oS, oJ q2, oS, oI p3, oI p4, oI p5, oJ mn, oS, oJ mx, oS, oI ng, oI he, oI ee, oI mm, oI cr, oI cc, oR b1, oJ nn, oS, oI ng, oI bs, oI ln, oR b61, oI la, oU, oU, oU, oU, oU, oU, oU, oU, oU, oU, oU, oU, oU] [(.long nn), (.int mm), (.int (13 : Int32)), (.int (la - (13 : Int32))), (.ref b61)]
                      refine own_st (fun _ k => XS.aload X116.here hx rfl (hb hby at_562) rfl rfl k) ?_
                      show own_Go X116 (Q0 Z q0 q1 q2 p3 p4 p5 h0 n0) 2 41 564 #[oJ q0, oS, oJ q1, oS, oJ q2, oS, oI p3, oI p4, oI p5, oJ mn, oS, oJ mx, oS, oI ng, oI he, oI ee, oI mm, oI cr, oI cc, oR b1, oJ nn, oS, oI ng, oI bs, oI ln, oR b61, oI la, oU, oU, oU, oU, oU, oU, oU, oU, oU, oU, oU, oU, oU] [(.ref b1), (.long nn), (.int mm), (.int (13 : Int32)), (.int (la - (13 : Int32))), (.ref b61)]
                      refine own_callS (W := 0) X116 hx hZ hown (hw _ (List.mem_of_getElem? (i := 21) rfl)) (hw _ (List.mem_of_getElem? (i := 22) rfl)) (hw _ (List.mem_of_getElem? (i := 23) rfl)) (hw _ (List.mem_of_getElem? (i := 24) rfl)) (by decide) (rm1 l Z a0 hw [] b61 (la - (13 : Int32)) (13 : Int32) mm nn b1 k61 k1 (own_puts (own_w1 ng he ee) la mm nn 13) [(.long (1 : Int64)), (.long (10 : Int64)), (.long (100 : Int64)), (.long (1000 : Int64)), (.long (10000 : Int64)), (.long (100000 : Int64)), (.long (1000000 : Int64)), (.long (10000000 : Int64)), (.long (100000000 : Int64)), (.long (1000000000 : Int64)), (.long (10000000000 : Int64)), (.long (100000000000 : Int64)), (.long (1000000000000 : Int64)), (.long (10000000000000 : Int64)), (.long (100000000000000 : Int64)), (.long (1000000000000000 : Int64)), (.long (10000000000000000 : Int64)), (.long (100000000000000000 : Int64)), (.long (1000000000000000000 : Int64))] (10000000000000 : Int64) T116.heap n0 Z_119 V116 (own_len22 (own_l1 ng he ee) 13) G_63 f_118 ne_62 ⟨by decide, by decide⟩ rfl (by decide) (own_at (kk := 13) (own_len22 (own_l1 ng he ee) 13) hbB hmB hla' (by decide) (by decide))) (by decide) (by decide) (by rw [hml]; rfl) [(.ref b61), (.int (la - (13 : Int32))), (.int (13 : Int32)), (.int mm), (.long nn), (.ref b1)] [] (lenOf pd_0_0 rfl) rfl rfl (Nat.le_of_ble_eq_true rfl) (hb hby at_564) (Eq.refl T116.heap) (by decide) (by decide) ?_
                      rintro _ T120 L120 X120 ⟨rfl, N120q, K120q, V120q⟩
                      have N_121 := Fr.app N_117 N120q
                      have f_122 := f_118.keep K120q (ninS ne_62 nin0)
                      have Z_123 := Nat.le_trans Z_119 K120q.1
                      have V120 : Arv Z T120.heap b61 k61 .byte (22 : Int32) (own_puts (own_w1 ng he ee) la mm nn 14) (.int (0 : Int32)) := V120q
                      show own_Go X120 (Q0 Z q0 q1 q2 p3 p4 p5 h0 n0) 2 41 567 #[oJ q0, oS, oJ q1, oS, oJ q2, oS, oI p3, oI p4, oI p5, oJ mn, oS, oJ mx, oS, oI ng, oI he, oI ee, oI mm, oI cr, oI cc, oR b1, oJ nn, oS, oI ng, oI bs, oI ln, oR b61, oI la, oU, oU, oU, oU, oU, oU, oU, oU, oU, oU, oU, oU, oU] []
                      refine own_st (fun _ k => XS.aload X120.here hx rfl (hb hby at_567) rfl rfl k) ?_
                      show own_Go X120 (Q0 Z q0 q1 q2 p3 p4 p5 h0 n0) 2 41 569 #[oJ q0, oS, oJ q1, oS, oJ q2, oS, oI p3, oI p4, oI p5, oJ mn, oS, oJ mx, oS, oI ng, oI he, oI ee, oI mm, oI cr, oI cc, oR b1, oJ nn, oS, oI ng, oI bs, oI ln, oR b61, oI la, oU, oU, oU, oU, oU, oU, oU, oU, oU, oU, oU, oU, oU] [(.ref b61)]
                      refine own_st (fun _ k => XS.iload X120.here hx rfl (hb hby at_569) rfl k) ?_
                      show own_Go X120 (Q0 Z q0 q1 q2 p3 p4 p5 h0 n0) 2 41 571 #[oJ q0, oS, oJ q1, oS, oJ q2, oS, oI p3, oI p4, oI p5, oJ mn, oS, oJ mx, oS, oI ng, oI he, oI ee, oI mm, oI cr, oI cc, oR b1, oJ nn, oS, oI ng, oI bs, oI ln, oR b61, oI la, oU, oU, oU, oU, oU, oU, oU, oU, oU, oU, oU, oU, oU] [(.int la), (.ref b61)]
                      refine own_st (fun _ k => XS.bipush X120.here hx rfl (hb hby at_571) k) ?_
                      show own_Go X120 (Q0 Z q0 q1 q2 p3 p4 p5 h0 n0) 2 41 573 #[oJ q0, oS, oJ q1, oS, oJ q2, oS, oI p3, oI p4, oI p5, oJ mn, oS, oJ mx, oS, oI ng, oI he, oI ee, oI mm, oI cr, oI cc, oR b1, oJ nn, oS, oI ng, oI bs, oI ln, oR b61, oI la, oU, oU, oU, oU, oU, oU, oU, oU, oU, oU, oU, oU, oU] [(.int (14 : Int32)), (.int la), (.ref b61)]
                      refine own_st (fun _ k => XS.isub X120.here hx rfl (hb hby at_573) rfl k) ?_
                      show own_Go X120 (Q0 Z q0 q1 q2 p3 p4 p5 h0 n0) 2 41 574 #[oJ q0, oS, oJ q1, oS, oJ q2, oS, oI p3, oI p4, oI p5, oJ mn, oS, oJ mx, oS, oI ng, oI he, oI ee, oI mm, oI cr, oI cc, oR b1, oJ nn, oS, oI ng, oI bs, oI ln, oR b61, oI la, oU, oU, oU, oU, oU, oU, oU, oU, oU, oU, oU, oU, oU] [(.int (la - (14 : Int32))), (.ref b61)]
                      refine own_st (fun _ k => XS.bipush X120.here hx rfl (hb hby at_574) k) ?_
                      show own_Go X120 (Q0 Z q0 q1 q2 p3 p4 p5 h0 n0) 2 41 576 #[oJ q0, oS, oJ q1, oS, oJ q2, oS, oI p3, oI p4, oI p5, oJ mn, oS, oJ mx, oS, oI ng, oI he, oI ee, oI mm, oI cr, oI cc, oR b1, oJ nn, oS, oI ng, oI bs, oI ln, oR b61, oI la, oU, oU, oU, oU, oU, oU, oU, oU, oU, oU, oU, oU, oU] [(.int (14 : Int32)), (.int (la - (14 : Int32))), (.ref b61)]
                      refine own_st (fun _ k => XS.iload X120.here hx rfl (hb hby at_576) rfl k) ?_
                      show own_Go X120 (Q0 Z q0 q1 q2 p3 p4 p5 h0 n0) 2 41 578 #[oJ q0, oS, oJ q1, oS, oJ q2, oS, oI p3, oI p4, oI p5, oJ mn, oS, oJ mx, oS, oI ng, oI he, oI ee, oI mm, oI cr, oI cc, oR b1, oJ nn, oS, oI ng, oI bs, oI ln, oR b61, oI la, oU, oU, oU, oU, oU, oU, oU, oU, oU, oU, oU, oU, oU] [(.int mm), (.int (14 : Int32)), (.int (la - (14 : Int32))), (.ref b61)]
                      refine own_st (fun _ k => XS.lload X120.here hx rfl (hb hby at_578) rfl k) ?_
                      show own_Go X120 (Q0 Z q0 q1 q2 p3 p4 p5 h0 n0) 2 41 580 #[oJ q0, oS, oJ q1, oS, oJ q2, oS, oI p3, oI p4, oI p5, oJ mn, oS, oJ mx, oS, oI ng, oI he, oI ee, oI mm, oI cr, oI cc, oR b1, oJ nn, oS, oI ng, oI bs, oI ln, oR b61, oI la, oU, oU, oU, oU, oU, oU, oU, oU, oU, oU, oU, oU, oU] [(.long nn), (.int mm), (.int (14 : Int32)), (.int (la - (14 : Int32))), (.ref b61)]
                      refine own_st (fun _ k => XS.aload X120.here hx rfl (hb hby at_580) rfl rfl k) ?_
                      show own_Go X120 (Q0 Z q0 q1 q2 p3 p4 p5 h0 n0) 2 41 582 #[oJ q0, oS, oJ q1, oS, oJ q2, oS, oI p3, oI p4, oI p5, oJ mn, oS, oJ mx, oS, oI ng, oI he, oI ee, oI mm, oI cr, oI cc, oR b1, oJ nn, oS, oI ng, oI bs, oI ln, oR b61, oI la, oU, oU, oU, oU, oU, oU, oU, oU, oU, oU, oU, oU, oU] [(.ref b1), (.long nn), (.int mm), (.int (14 : Int32)), (.int (la - (14 : Int32))), (.ref b61)]
                      refine own_callS (W := 0) X120 hx hZ hown (hw _ (List.mem_of_getElem? (i := 21) rfl)) (hw _ (List.mem_of_getElem? (i := 22) rfl)) (hw _ (List.mem_of_getElem? (i := 23) rfl)) (hw _ (List.mem_of_getElem? (i := 24) rfl)) (by decide) (rm1 l Z a0 hw [] b61 (la - (14 : Int32)) (14 : Int32) mm nn b1 k61 k1 (own_puts (own_w1 ng he ee) la mm nn 14) [(.long (1 : Int64)), (.long (10 : Int64)), (.long (100 : Int64)), (.long (1000 : Int64)), (.long (10000 : Int64)), (.long (100000 : Int64)), (.long (1000000 : Int64)), (.long (10000000 : Int64)), (.long (100000000 : Int64)), (.long (1000000000 : Int64)), (.long (10000000000 : Int64)), (.long (100000000000 : Int64)), (.long (1000000000000 : Int64)), (.long (10000000000000 : Int64)), (.long (100000000000000 : Int64)), (.long (1000000000000000 : Int64)), (.long (10000000000000000 : Int64)), (.long (100000000000000000 : Int64)), (.long (1000000000000000000 : Int64))] (100000000000000 : Int64) T120.heap n0 Z_123 V120 (own_len22 (own_l1 ng he ee) 14) G_63 f_122 ne_62 ⟨by decide, by decide⟩ rfl (by decide) (own_at (kk := 14) (own_len22 (own_l1 ng he ee) 14) hbB hmB hla' (by decide) (by decide))) (by decide) (by decide) (by rw [hml]; rfl) [(.ref b61), (.int (la - (14 : Int32))), (.int (14 : Int32)), (.int mm), (.long nn), (.ref b1)] [] (lenOf pd_0_0 rfl) rfl rfl (Nat.le_of_ble_eq_true rfl) (hb hby at_582) (Eq.refl T120.heap) (by decide) (by decide) ?_
                      rintro _ T124 L124 X124 ⟨rfl, N124q, K124q, V124q⟩
                      have N_125 := Fr.app N_121 N124q
                      have f_126 := f_122.keep K124q (ninS ne_62 nin0)
                      have Z_127 := Nat.le_trans Z_123 K124q.1
                      have V124 : Arv Z T124.heap b61 k61 .byte (22 : Int32) (own_puts (own_w1 ng he ee) la mm nn 15) (.int (0 : Int32)) := V124q
                      show own_Go X124 (Q0 Z q0 q1 q2 p3 p4 p5 h0 n0) 2 41 585 #[oJ q0, oS, oJ q1, oS, oJ q2, oS, oI p3, oI p4, oI p5, oJ mn, oS, oJ mx, oS, oI ng, oI he, oI ee, oI mm, oI cr, oI cc, oR b1, oJ nn, oS, oI ng, oI bs, oI ln, oR b61, oI la, oU, oU, oU, oU, oU, oU, oU, oU, oU, oU, oU, oU, oU] []
                      refine own_st (fun _ k => XS.aload X124.here hx rfl (hb hby at_585) rfl rfl k) ?_
                      show own_Go X124 (Q0 Z q0 q1 q2 p3 p4 p5 h0 n0) 2 41 587 #[oJ q0, oS, oJ q1, oS, oJ q2, oS, oI p3, oI p4, oI p5, oJ mn, oS, oJ mx, oS, oI ng, oI he, oI ee, oI mm, oI cr, oI cc, oR b1, oJ nn, oS, oI ng, oI bs, oI ln, oR b61, oI la, oU, oU, oU, oU, oU, oU, oU, oU, oU, oU, oU, oU, oU] [(.ref b61)]
                      refine own_st (fun _ k => XS.iload X124.here hx rfl (hb hby at_587) rfl k) ?_
                      show own_Go X124 (Q0 Z q0 q1 q2 p3 p4 p5 h0 n0) 2 41 589 #[oJ q0, oS, oJ q1, oS, oJ q2, oS, oI p3, oI p4, oI p5, oJ mn, oS, oJ mx, oS, oI ng, oI he, oI ee, oI mm, oI cr, oI cc, oR b1, oJ nn, oS, oI ng, oI bs, oI ln, oR b61, oI la, oU, oU, oU, oU, oU, oU, oU, oU, oU, oU, oU, oU, oU] [(.int la), (.ref b61)]
                      refine own_st (fun _ k => XS.bipush X124.here hx rfl (hb hby at_589) k) ?_
                      show own_Go X124 (Q0 Z q0 q1 q2 p3 p4 p5 h0 n0) 2 41 591 #[oJ q0, oS, oJ q1, oS, oJ q2, oS, oI p3, oI p4, oI p5, oJ mn, oS, oJ mx, oS, oI ng, oI he, oI ee, oI mm, oI cr, oI cc, oR b1, oJ nn, oS, oI ng, oI bs, oI ln, oR b61, oI la, oU, oU, oU, oU, oU, oU, oU, oU, oU, oU, oU, oU, oU] [(.int (15 : Int32)), (.int la), (.ref b61)]
                      refine own_st (fun _ k => XS.isub X124.here hx rfl (hb hby at_591) rfl k) ?_
                      show own_Go X124 (Q0 Z q0 q1 q2 p3 p4 p5 h0 n0) 2 41 592 #[oJ q0, oS, oJ q1, oS, oJ q2, oS, oI p3, oI p4, oI p5, oJ mn, oS, oJ mx, oS, oI ng, oI he, oI ee, oI mm, oI cr, oI cc, oR b1, oJ nn, oS, oI ng, oI bs, oI ln, oR b61, oI la, oU, oU, oU, oU, oU, oU, oU, oU, oU, oU, oU, oU, oU] [(.int (la - (15 : Int32))), (.ref b61)]
                      refine own_st (fun _ k => XS.bipush X124.here hx rfl (hb hby at_592) k) ?_
                      show own_Go X124 (Q0 Z q0 q1 q2 p3 p4 p5 h0 n0) 2 41 594 #[oJ q0, oS, oJ q1, oS, oJ q2, oS, oI p3, oI p4, oI p5, oJ mn, oS, oJ mx, oS, oI ng, oI he, oI ee, oI mm, oI cr, oI cc, oR b1, oJ nn, oS, oI ng, oI bs, oI ln, oR b61, oI la, oU, oU, oU, oU, oU, oU, oU, oU, oU, oU, oU, oU, oU] [(.int (15 : Int32)), (.int (la - (15 : Int32))), (.ref b61)]
                      refine own_st (fun _ k => XS.iload X124.here hx rfl (hb hby at_594) rfl k) ?_
                      show own_Go X124 (Q0 Z q0 q1 q2 p3 p4 p5 h0 n0) 2 41 596 #[oJ q0, oS, oJ q1, oS, oJ q2, oS, oI p3, oI p4, oI p5, oJ mn, oS, oJ mx, oS, oI ng, oI he, oI ee, oI mm, oI cr, oI cc, oR b1, oJ nn, oS, oI ng, oI bs, oI ln, oR b61, oI la, oU, oU, oU, oU, oU, oU, oU, oU, oU, oU, oU, oU, oU] [(.int mm), (.int (15 : Int32)), (.int (la - (15 : Int32))), (.ref b61)]
                      refine own_st (fun _ k => XS.lload X124.here hx rfl (hb hby at_596) rfl k) ?_
                      show own_Go X124 (Q0 Z q0 q1 q2 p3 p4 p5 h0 n0) 2 41 598 #[oJ q0, oS, oJ q1, oS, oJ q2, oS, oI p3, oI p4, oI p5, oJ mn, oS, oJ mx, oS, oI ng, oI he, oI ee, oI mm, oI cr, oI cc, oR b1, oJ nn, oS, oI ng, oI bs, oI ln, oR b61, oI la, oU, oU, oU, oU, oU, oU, oU, oU, oU, oU, oU, oU, oU] [(.long nn), (.int mm), (.int (15 : Int32)), (.int (la - (15 : Int32))), (.ref b61)]
                      refine own_st (fun _ k => XS.aload X124.here hx rfl (hb hby at_598) rfl rfl k) ?_
                      show own_Go X124 (Q0 Z q0 q1 q2 p3 p4 p5 h0 n0) 2 41 600 #[oJ q0, oS, oJ q1, oS, oJ q2, oS, oI p3, oI p4, oI p5, oJ mn, oS, oJ mx, oS, oI ng, oI he, oI ee, oI mm, oI cr, oI cc, oR b1, oJ nn, oS, oI ng, oI bs, oI ln, oR b61, oI la, oU, oU, oU, oU, oU, oU, oU, oU, oU, oU, oU, oU, oU] [(.ref b1), (.long nn), (.int mm), (.int (15 : Int32)), (.int (la - (15 : Int32))), (.ref b61)]
                      refine own_callS (W := 0) X124 hx hZ hown (hw _ (List.mem_of_getElem? (i := 21) rfl)) (hw _ (List.mem_of_getElem? (i := 22) rfl)) (hw _ (List.mem_of_getElem? (i := 23) rfl)) (hw _ (List.mem_of_getElem? (i := 24) rfl)) (by decide) (rm1 l Z a0 hw [] b61 (la - (15 : Int32)) (15 : Int32) mm nn b1 k61 k1 (own_puts (own_w1 ng he ee) la mm nn 15) [(.long (1 : Int64)), (.long (10 : Int64)), (.long (100 : Int64)), (.long (1000 : Int64)), (.long (10000 : Int64)), (.long (100000 : Int64)), (.long (1000000 : Int64)), (.long (10000000 : Int64)), (.long (100000000 : Int64)), (.long (1000000000 : Int64)), (.long (10000000000 : Int64)), (.long (100000000000 : Int64)), (.long (1000000000000 : Int64)), (.long (10000000000000 : Int64)), (.long (100000000000000 : Int64)), (.long (1000000000000000 : Int64)), (.long (10000000000000000 : Int64)), (.long (100000000000000000 : Int64)), (.long (1000000000000000000 : Int64))] (1000000000000000 : Int64) T124.heap n0 Z_127 V124 (own_len22 (own_l1 ng he ee) 15) G_63 f_126 ne_62 ⟨by decide, by decide⟩ rfl (by decide) (own_at (kk := 15) (own_len22 (own_l1 ng he ee) 15) hbB hmB hla' (by decide) (by decide))) (by decide) (by decide) (by rw [hml]; rfl) [(.ref b61), (.int (la - (15 : Int32))), (.int (15 : Int32)), (.int mm), (.long nn), (.ref b1)] [] (lenOf pd_0_0 rfl) rfl rfl (Nat.le_of_ble_eq_true rfl) (hb hby at_600) (Eq.refl T124.heap) (by decide) (by decide) ?_
                      rintro _ T128 L128 X128 ⟨rfl, N128q, K128q, V128q⟩
                      have N_129 := Fr.app N_125 N128q
                      have f_130 := f_126.keep K128q (ninS ne_62 nin0)
                      have Z_131 := Nat.le_trans Z_127 K128q.1
                      have V128 : Arv Z T128.heap b61 k61 .byte (22 : Int32) (own_puts (own_w1 ng he ee) la mm nn 16) (.int (0 : Int32)) := V128q
                      show own_Go X128 (Q0 Z q0 q1 q2 p3 p4 p5 h0 n0) 2 41 603 #[oJ q0, oS, oJ q1, oS, oJ q2, oS, oI p3, oI p4, oI p5, oJ mn, oS, oJ mx, oS, oI ng, oI he, oI ee, oI mm, oI cr, oI cc, oR b1, oJ nn, oS, oI ng, oI bs, oI ln, oR b61, oI la, oU, oU, oU, oU, oU, oU, oU, oU, oU, oU, oU, oU, oU] []
                      refine own_st (fun _ k => XS.aload X128.here hx rfl (hb hby at_603) rfl rfl k) ?_
                      show own_Go X128 (Q0 Z q0 q1 q2 p3 p4 p5 h0 n0) 2 41 605 #[oJ q0, oS, oJ q1, oS, oJ q2, oS, oI p3, oI p4, oI p5, oJ mn, oS, oJ mx, oS, oI ng, oI he, oI ee, oI mm, oI cr, oI cc, oR b1, oJ nn, oS, oI ng, oI bs, oI ln, oR b61, oI la, oU, oU, oU, oU, oU, oU, oU, oU, oU, oU, oU, oU, oU] [(.ref b61)]
                      refine own_st (fun _ k => XS.iload X128.here hx rfl (hb hby at_605) rfl k) ?_
                      show own_Go X128 (Q0 Z q0 q1 q2 p3 p4 p5 h0 n0) 2 41 607 #[oJ q0, oS, oJ q1, oS, oJ q2, oS, oI p3, oI p4, oI p5, oJ mn, oS, oJ mx, oS, oI ng, oI he, oI ee, oI mm, oI cr, oI cc, oR b1, oJ nn, oS, oI ng, oI bs, oI ln, oR b61, oI la, oU, oU, oU, oU, oU, oU, oU, oU, oU, oU, oU, oU, oU] [(.int la), (.ref b61)]
                      refine own_st (fun _ k => XS.bipush X128.here hx rfl (hb hby at_607) k) ?_
                      show own_Go X128 (Q0 Z q0 q1 q2 p3 p4 p5 h0 n0) 2 41 609 #[oJ q0, oS, oJ q1, oS, oJ q2, oS, oI p3, oI p4, oI p5, oJ mn, oS, oJ mx, oS, oI ng, oI he, oI ee, oI mm, oI cr, oI cc, oR b1, oJ nn, oS, oI ng, oI bs, oI ln, oR b61, oI la, oU, oU, oU, oU, oU, oU, oU, oU, oU, oU, oU, oU, oU] [(.int (16 : Int32)), (.int la), (.ref b61)]
                      refine own_st (fun _ k => XS.isub X128.here hx rfl (hb hby at_609) rfl k) ?_
                      show own_Go X128 (Q0 Z q0 q1 q2 p3 p4 p5 h0 n0) 2 41 610 #[oJ q0, oS, oJ q1, oS, oJ q2, oS, oI p3, oI p4, oI p5, oJ mn, oS, oJ mx, oS, oI ng, oI he, oI ee, oI mm, oI cr, oI cc, oR b1, oJ nn, oS, oI ng, oI bs, oI ln, oR b61, oI la, oU, oU, oU, oU, oU, oU, oU, oU, oU, oU, oU, oU, oU] [(.int (la - (16 : Int32))), (.ref b61)]
                      refine own_st (fun _ k => XS.bipush X128.here hx rfl (hb hby at_610) k) ?_
                      show own_Go X128 (Q0 Z q0 q1 q2 p3 p4 p5 h0 n0) 2 41 612 #[oJ q0, oS, oJ q1, oS, oJ q2, oS, oI p3, oI p4, oI p5, oJ mn, oS, oJ mx, oS, oI ng, oI he, oI ee, oI mm, oI cr, oI cc, oR b1, oJ nn, oS, oI ng, oI bs, oI ln, oR b61, oI la, oU, oU, oU, oU, oU, oU, oU, oU, oU, oU, oU, oU, oU] [(.int (16 : Int32)), (.int (la - (16 : Int32))), (.ref b61)]
                      refine own_st (fun _ k => XS.iload X128.here hx rfl (hb hby at_612) rfl k) ?_
                      show own_Go X128 (Q0 Z q0 q1 q2 p3 p4 p5 h0 n0) 2 41 614 #[oJ q0, oS, oJ q1, oS, oJ q2, oS, oI p3, oI p4, oI p5, oJ mn, oS, oJ mx, oS, oI ng, oI he, oI ee, oI mm, oI cr, oI cc, oR b1, oJ nn, oS, oI ng, oI bs, oI ln, oR b61, oI la, oU, oU, oU, oU, oU, oU, oU, oU, oU, oU, oU, oU, oU] [(.int mm), (.int (16 : Int32)), (.int (la - (16 : Int32))), (.ref b61)]
                      refine own_st (fun _ k => XS.lload X128.here hx rfl (hb hby at_614) rfl k) ?_
                      show own_Go X128 (Q0 Z q0 q1 q2 p3 p4 p5 h0 n0) 2 41 616 #[oJ q0, oS, oJ q1, oS, oJ q2, oS, oI p3, oI p4, oI p5, oJ mn, oS, oJ mx, oS, oI ng, oI he, oI ee, oI mm, oI cr, oI cc, oR b1, oJ nn, oS, oI ng, oI bs, oI ln, oR b61, oI la, oU, oU, oU, oU, oU, oU, oU, oU, oU, oU, oU, oU, oU] [(.long nn), (.int mm), (.int (16 : Int32)), (.int (la - (16 : Int32))), (.ref b61)]
                      refine own_st (fun _ k => XS.aload X128.here hx rfl (hb hby at_616) rfl rfl k) ?_
                      show own_Go X128 (Q0 Z q0 q1 q2 p3 p4 p5 h0 n0) 2 41 618 #[oJ q0, oS, oJ q1, oS, oJ q2, oS, oI p3, oI p4, oI p5, oJ mn, oS, oJ mx, oS, oI ng, oI he, oI ee, oI mm, oI cr, oI cc, oR b1, oJ nn, oS, oI ng, oI bs, oI ln, oR b61, oI la, oU, oU, oU, oU, oU, oU, oU, oU, oU, oU, oU, oU, oU] [(.ref b1), (.long nn), (.int mm), (.int (16 : Int32)), (.int (la - (16 : Int32))), (.ref b61)]
                      refine own_callS (W := 0) X128 hx hZ hown (hw _ (List.mem_of_getElem? (i := 21) rfl)) (hw _ (List.mem_of_getElem? (i := 22) rfl)) (hw _ (List.mem_of_getElem? (i := 23) rfl)) (hw _ (List.mem_of_getElem? (i := 24) rfl)) (by decide) (rm1 l Z a0 hw [] b61 (la - (16 : Int32)) (16 : Int32) mm nn b1 k61 k1 (own_puts (own_w1 ng he ee) la mm nn 16) [(.long (1 : Int64)), (.long (10 : Int64)), (.long (100 : Int64)), (.long (1000 : Int64)), (.long (10000 : Int64)), (.long (100000 : Int64)), (.long (1000000 : Int64)), (.long (10000000 : Int64)), (.long (100000000 : Int64)), (.long (1000000000 : Int64)), (.long (10000000000 : Int64)), (.long (100000000000 : Int64)), (.long (1000000000000 : Int64)), (.long (10000000000000 : Int64)), (.long (100000000000000 : Int64)), (.long (1000000000000000 : Int64)), (.long (10000000000000000 : Int64)), (.long (100000000000000000 : Int64)), (.long (1000000000000000000 : Int64))] (10000000000000000 : Int64) T128.heap n0 Z_131 V128 (own_len22 (own_l1 ng he ee) 16) G_63 f_130 ne_62 ⟨by decide, by decide⟩ rfl (by decide) (own_at (kk := 16) (own_len22 (own_l1 ng he ee) 16) hbB hmB hla' (by decide) (by decide))) (by decide) (by decide) (by rw [hml]; rfl) [(.ref b61), (.int (la - (16 : Int32))), (.int (16 : Int32)), (.int mm), (.long nn), (.ref b1)] [] (lenOf pd_0_0 rfl) rfl rfl (Nat.le_of_ble_eq_true rfl) (hb hby at_618) (Eq.refl T128.heap) (by decide) (by decide) ?_
                      rintro _ T132 L132 X132 ⟨rfl, N132q, K132q, V132q⟩
                      have N_133 := Fr.app N_129 N132q
                      have f_134 := f_130.keep K132q (ninS ne_62 nin0)
                      have Z_135 := Nat.le_trans Z_131 K132q.1
                      have V132 : Arv Z T132.heap b61 k61 .byte (22 : Int32) (own_puts (own_w1 ng he ee) la mm nn 17) (.int (0 : Int32)) := V132q
                      show own_Go X132 (Q0 Z q0 q1 q2 p3 p4 p5 h0 n0) 2 41 621 #[oJ q0, oS, oJ q1, oS, oJ q2, oS, oI p3, oI p4, oI p5, oJ mn, oS, oJ mx, oS, oI ng, oI he, oI ee, oI mm, oI cr, oI cc, oR b1, oJ nn, oS, oI ng, oI bs, oI ln, oR b61, oI la, oU, oU, oU, oU, oU, oU, oU, oU, oU, oU, oU, oU, oU] []
                      refine own_st (fun _ k => XS.aload X132.here hx rfl (hb hby at_621) rfl rfl k) ?_
                      show own_Go X132 (Q0 Z q0 q1 q2 p3 p4 p5 h0 n0) 2 41 623 #[oJ q0, oS, oJ q1, oS, oJ q2, oS, oI p3, oI p4, oI p5, oJ mn, oS, oJ mx, oS, oI ng, oI he, oI ee, oI mm, oI cr, oI cc, oR b1, oJ nn, oS, oI ng, oI bs, oI ln, oR b61, oI la, oU, oU, oU, oU, oU, oU, oU, oU, oU, oU, oU, oU, oU] [(.ref b61)]
                      refine own_st (fun _ k => XS.iload X132.here hx rfl (hb hby at_623) rfl k) ?_
                      show own_Go X132 (Q0 Z q0 q1 q2 p3 p4 p5 h0 n0) 2 41 625 #[oJ q0, oS, oJ q1, oS, oJ q2, oS, oI p3, oI p4, oI p5, oJ mn, oS, oJ mx, oS, oI ng, oI he, oI ee, oI mm, oI cr, oI cc, oR b1, oJ nn, oS, oI ng, oI bs, oI ln, oR b61, oI la, oU, oU, oU, oU, oU, oU, oU, oU, oU, oU, oU, oU, oU] [(.int la), (.ref b61)]
                      refine own_st (fun _ k => XS.bipush X132.here hx rfl (hb hby at_625) k) ?_
                      show own_Go X132 (Q0 Z q0 q1 q2 p3 p4 p5 h0 n0) 2 41 627 #[oJ q0, oS, oJ q1, oS, oJ q2, oS, oI p3, oI p4, oI p5, oJ mn, oS, oJ mx, oS, oI ng, oI he, oI ee, oI mm, oI cr, oI cc, oR b1, oJ nn, oS, oI ng, oI bs, oI ln, oR b61, oI la, oU, oU, oU, oU, oU, oU, oU, oU, oU, oU, oU, oU, oU] [(.int (17 : Int32)), (.int la), (.ref b61)]
                      refine own_st (fun _ k => XS.isub X132.here hx rfl (hb hby at_627) rfl k) ?_
                      show own_Go X132 (Q0 Z q0 q1 q2 p3 p4 p5 h0 n0) 2 41 628 #[oJ q0, oS, oJ q1, oS, oJ q2, oS, oI p3, oI p4, oI p5, oJ mn, oS, oJ mx, oS, oI ng, oI he, oI ee, oI mm, oI cr, oI cc, oR b1, oJ nn, oS, oI ng, oI bs, oI ln, oR b61, oI la, oU, oU, oU, oU, oU, oU, oU, oU, oU, oU, oU, oU, oU] [(.int (la - (17 : Int32))), (.ref b61)]
                      refine own_st (fun _ k => XS.bipush X132.here hx rfl (hb hby at_628) k) ?_
                      show own_Go X132 (Q0 Z q0 q1 q2 p3 p4 p5 h0 n0) 2 41 630 #[oJ q0, oS, oJ q1, oS, oJ q2, oS, oI p3, oI p4, oI p5, oJ mn, oS, oJ mx, oS, oI ng, oI he, oI ee, oI mm, oI cr, oI cc, oR b1, oJ nn, oS, oI ng, oI bs, oI ln, oR b61, oI la, oU, oU, oU, oU, oU, oU, oU, oU, oU, oU, oU, oU, oU] [(.int (17 : Int32)), (.int (la - (17 : Int32))), (.ref b61)]
                      refine own_st (fun _ k => XS.iload X132.here hx rfl (hb hby at_630) rfl k) ?_
                      show own_Go X132 (Q0 Z q0 q1 q2 p3 p4 p5 h0 n0) 2 41 632 #[oJ q0, oS, oJ q1, oS, oJ q2, oS, oI p3, oI p4, oI p5, oJ mn, oS, oJ mx, oS, oI ng, oI he, oI ee, oI mm, oI cr, oI cc, oR b1, oJ nn, oS, oI ng, oI bs, oI ln, oR b61, oI la, oU, oU, oU, oU, oU, oU, oU, oU, oU, oU, oU, oU, oU] [(.int mm), (.int (17 : Int32)), (.int (la - (17 : Int32))), (.ref b61)]
                      refine own_st (fun _ k => XS.lload X132.here hx rfl (hb hby at_632) rfl k) ?_
                      show own_Go X132 (Q0 Z q0 q1 q2 p3 p4 p5 h0 n0) 2 41 634 #[oJ q0, oS, oJ q1, oS, oJ q2, oS, oI p3, oI p4, oI p5, oJ mn, oS, oJ mx, oS, oI ng, oI he, oI ee, oI mm, oI cr, oI cc, oR b1, oJ nn, oS, oI ng, oI bs, oI ln, oR b61, oI la, oU, oU, oU, oU, oU, oU, oU, oU, oU, oU, oU, oU, oU] [(.long nn), (.int mm), (.int (17 : Int32)), (.int (la - (17 : Int32))), (.ref b61)]
                      refine own_st (fun _ k => XS.aload X132.here hx rfl (hb hby at_634) rfl rfl k) ?_
                      show own_Go X132 (Q0 Z q0 q1 q2 p3 p4 p5 h0 n0) 2 41 636 #[oJ q0, oS, oJ q1, oS, oJ q2, oS, oI p3, oI p4, oI p5, oJ mn, oS, oJ mx, oS, oI ng, oI he, oI ee, oI mm, oI cr, oI cc, oR b1, oJ nn, oS, oI ng, oI bs, oI ln, oR b61, oI la, oU, oU, oU, oU, oU, oU, oU, oU, oU, oU, oU, oU, oU] [(.ref b1), (.long nn), (.int mm), (.int (17 : Int32)), (.int (la - (17 : Int32))), (.ref b61)]
                      refine own_callS (W := 0) X132 hx hZ hown (hw _ (List.mem_of_getElem? (i := 21) rfl)) (hw _ (List.mem_of_getElem? (i := 22) rfl)) (hw _ (List.mem_of_getElem? (i := 23) rfl)) (hw _ (List.mem_of_getElem? (i := 24) rfl)) (by decide) (rm1 l Z a0 hw [] b61 (la - (17 : Int32)) (17 : Int32) mm nn b1 k61 k1 (own_puts (own_w1 ng he ee) la mm nn 17) [(.long (1 : Int64)), (.long (10 : Int64)), (.long (100 : Int64)), (.long (1000 : Int64)), (.long (10000 : Int64)), (.long (100000 : Int64)), (.long (1000000 : Int64)), (.long (10000000 : Int64)), (.long (100000000 : Int64)), (.long (1000000000 : Int64)), (.long (10000000000 : Int64)), (.long (100000000000 : Int64)), (.long (1000000000000 : Int64)), (.long (10000000000000 : Int64)), (.long (100000000000000 : Int64)), (.long (1000000000000000 : Int64)), (.long (10000000000000000 : Int64)), (.long (100000000000000000 : Int64)), (.long (1000000000000000000 : Int64))] (100000000000000000 : Int64) T132.heap n0 Z_135 V132 (own_len22 (own_l1 ng he ee) 17) G_63 f_134 ne_62 ⟨by decide, by decide⟩ rfl (by decide) (own_at (kk := 17) (own_len22 (own_l1 ng he ee) 17) hbB hmB hla' (by decide) (by decide))) (by decide) (by decide) (by rw [hml]; rfl) [(.ref b61), (.int (la - (17 : Int32))), (.int (17 : Int32)), (.int mm), (.long nn), (.ref b1)] [] (lenOf pd_0_0 rfl) rfl rfl (Nat.le_of_ble_eq_true rfl) (hb hby at_636) (Eq.refl T132.heap) (by decide) (by decide) ?_
                      rintro _ T136 L136 X136 ⟨rfl, N136q, K136q, V136q⟩
                      have N_137 := Fr.app N_133 N136q
                      have f_138 := f_134.keep K136q (ninS ne_62 nin0)
                      have Z_139 := Nat.le_trans Z_135 K136q.1
                      have V136 : Arv Z T136.heap b61 k61 .byte (22 : Int32) (own_puts (own_w1 ng he ee) la mm nn 18) (.int (0 : Int32)) := V136q
                      show own_Go X136 (Q0 Z q0 q1 q2 p3 p4 p5 h0 n0) 2 41 639 #[oJ q0, oS, oJ q1, oS, oJ q2, oS, oI p3, oI p4, oI p5, oJ mn, oS, oJ mx, oS, oI ng, oI he, oI ee, oI mm, oI cr, oI cc, oR b1, oJ nn, oS, oI ng, oI bs, oI ln, oR b61, oI la, oU, oU, oU, oU, oU, oU, oU, oU, oU, oU, oU, oU, oU] []
                      refine own_st (fun _ k => XS.aload X136.here hx rfl (hb hby at_639) rfl rfl k) ?_
                      show own_Go X136 (Q0 Z q0 q1 q2 p3 p4 p5 h0 n0) 2 41 641 #[oJ q0, oS, oJ q1, oS, oJ q2, oS, oI p3, oI p4, oI p5, oJ mn, oS, oJ mx, oS, oI ng, oI he, oI ee, oI mm, oI cr, oI cc, oR b1, oJ nn, oS, oI ng, oI bs, oI ln, oR b61, oI la, oU, oU, oU, oU, oU, oU, oU, oU, oU, oU, oU, oU, oU] [(.ref b61)]
                      refine own_st (fun _ k => XS.iload X136.here hx rfl (hb hby at_641) rfl k) ?_
                      show own_Go X136 (Q0 Z q0 q1 q2 p3 p4 p5 h0 n0) 2 41 643 #[oJ q0, oS, oJ q1, oS, oJ q2, oS, oI p3, oI p4, oI p5, oJ mn, oS, oJ mx, oS, oI ng, oI he, oI ee, oI mm, oI cr, oI cc, oR b1, oJ nn, oS, oI ng, oI bs, oI ln, oR b61, oI la, oU, oU, oU, oU, oU, oU, oU, oU, oU, oU, oU, oU, oU] [(.int la), (.ref b61)]
                      refine own_st (fun _ k => XS.bipush X136.here hx rfl (hb hby at_643) k) ?_
                      show own_Go X136 (Q0 Z q0 q1 q2 p3 p4 p5 h0 n0) 2 41 645 #[oJ q0, oS, oJ q1, oS, oJ q2, oS, oI p3, oI p4, oI p5, oJ mn, oS, oJ mx, oS, oI ng, oI he, oI ee, oI mm, oI cr, oI cc, oR b1, oJ nn, oS, oI ng, oI bs, oI ln, oR b61, oI la, oU, oU, oU, oU, oU, oU, oU, oU, oU, oU, oU, oU, oU] [(.int (18 : Int32)), (.int la), (.ref b61)]
                      refine own_st (fun _ k => XS.isub X136.here hx rfl (hb hby at_645) rfl k) ?_
                      show own_Go X136 (Q0 Z q0 q1 q2 p3 p4 p5 h0 n0) 2 41 646 #[oJ q0, oS, oJ q1, oS, oJ q2, oS, oI p3, oI p4, oI p5, oJ mn, oS, oJ mx, oS, oI ng, oI he, oI ee, oI mm, oI cr, oI cc, oR b1, oJ nn, oS, oI ng, oI bs, oI ln, oR b61, oI la, oU, oU, oU, oU, oU, oU, oU, oU, oU, oU, oU, oU, oU] [(.int (la - (18 : Int32))), (.ref b61)]
                      refine own_st (fun _ k => XS.bipush X136.here hx rfl (hb hby at_646) k) ?_
                      show own_Go X136 (Q0 Z q0 q1 q2 p3 p4 p5 h0 n0) 2 41 648 #[oJ q0, oS, oJ q1, oS, oJ q2, oS, oI p3, oI p4, oI p5, oJ mn, oS, oJ mx, oS, oI ng, oI he, oI ee, oI mm, oI cr, oI cc, oR b1, oJ nn, oS, oI ng, oI bs, oI ln, oR b61, oI la, oU, oU, oU, oU, oU, oU, oU, oU, oU, oU, oU, oU, oU] [(.int (18 : Int32)), (.int (la - (18 : Int32))), (.ref b61)]
                      refine own_st (fun _ k => XS.iload X136.here hx rfl (hb hby at_648) rfl k) ?_
                      show own_Go X136 (Q0 Z q0 q1 q2 p3 p4 p5 h0 n0) 2 41 650 #[oJ q0, oS, oJ q1, oS, oJ q2, oS, oI p3, oI p4, oI p5, oJ mn, oS, oJ mx, oS, oI ng, oI he, oI ee, oI mm, oI cr, oI cc, oR b1, oJ nn, oS, oI ng, oI bs, oI ln, oR b61, oI la, oU, oU, oU, oU, oU, oU, oU, oU, oU, oU, oU, oU, oU] [(.int mm), (.int (18 : Int32)), (.int (la - (18 : Int32))), (.ref b61)]
                      refine own_st (fun _ k => XS.lload X136.here hx rfl (hb hby at_650) rfl k) ?_
                      show own_Go X136 (Q0 Z q0 q1 q2 p3 p4 p5 h0 n0) 2 41 652 #[oJ q0, oS, oJ q1, oS, oJ q2, oS, oI p3, oI p4, oI p5, oJ mn, oS, oJ mx, oS, oI ng, oI he, oI ee, oI mm, oI cr, oI cc, oR b1, oJ nn, oS, oI ng, oI bs, oI ln, oR b61, oI la, oU, oU, oU, oU, oU, oU, oU, oU, oU, oU, oU, oU, oU] [(.long nn), (.int mm), (.int (18 : Int32)), (.int (la - (18 : Int32))), (.ref b61)]
                      refine own_st (fun _ k => XS.aload X136.here hx rfl (hb hby at_652) rfl rfl k) ?_
                      show own_Go X136 (Q0 Z q0 q1 q2 p3 p4 p5 h0 n0) 2 41 654 #[oJ q0, oS, oJ q1, oS, oJ q2, oS, oI p3, oI p4, oI p5, oJ mn, oS, oJ mx, oS, oI ng, oI he, oI ee, oI mm, oI cr, oI cc, oR b1, oJ nn, oS, oI ng, oI bs, oI ln, oR b61, oI la, oU, oU, oU, oU, oU, oU, oU, oU, oU, oU, oU, oU, oU] [(.ref b1), (.long nn), (.int mm), (.int (18 : Int32)), (.int (la - (18 : Int32))), (.ref b61)]
                      refine own_callS (W := 0) X136 hx hZ hown (hw _ (List.mem_of_getElem? (i := 21) rfl)) (hw _ (List.mem_of_getElem? (i := 22) rfl)) (hw _ (List.mem_of_getElem? (i := 23) rfl)) (hw _ (List.mem_of_getElem? (i := 24) rfl)) (by decide) (rm1 l Z a0 hw [] b61 (la - (18 : Int32)) (18 : Int32) mm nn b1 k61 k1 (own_puts (own_w1 ng he ee) la mm nn 18) [(.long (1 : Int64)), (.long (10 : Int64)), (.long (100 : Int64)), (.long (1000 : Int64)), (.long (10000 : Int64)), (.long (100000 : Int64)), (.long (1000000 : Int64)), (.long (10000000 : Int64)), (.long (100000000 : Int64)), (.long (1000000000 : Int64)), (.long (10000000000 : Int64)), (.long (100000000000 : Int64)), (.long (1000000000000 : Int64)), (.long (10000000000000 : Int64)), (.long (100000000000000 : Int64)), (.long (1000000000000000 : Int64)), (.long (10000000000000000 : Int64)), (.long (100000000000000000 : Int64)), (.long (1000000000000000000 : Int64))] (1000000000000000000 : Int64) T136.heap n0 Z_139 V136 (own_len22 (own_l1 ng he ee) 18) G_63 f_138 ne_62 ⟨by decide, by decide⟩ rfl (by decide) (own_at (kk := 18) (own_len22 (own_l1 ng he ee) 18) hbB hmB hla' (by decide) (by decide))) (by decide) (by decide) (by rw [hml]; rfl) [(.ref b61), (.int (la - (18 : Int32))), (.int (18 : Int32)), (.int mm), (.long nn), (.ref b1)] [] (lenOf pd_0_0 rfl) rfl rfl (Nat.le_of_ble_eq_true rfl) (hb hby at_654) (Eq.refl T136.heap) (by decide) (by decide) ?_
                      rintro _ T140 L140 X140 ⟨rfl, N140q, K140q, V140q⟩
                      have N_141 := Fr.app N_137 N140q
                      have f_142 := f_138.keep K140q (ninS ne_62 nin0)
                      have Z_143 := Nat.le_trans Z_139 K140q.1
                      have V140 : Arv Z T140.heap b61 k61 .byte (22 : Int32) (own_puts (own_w1 ng he ee) la mm nn 19) (.int (0 : Int32)) := V140q
                      show own_Go X140 (Q0 Z q0 q1 q2 p3 p4 p5 h0 n0) 2 41 657 #[oJ q0, oS, oJ q1, oS, oJ q2, oS, oI p3, oI p4, oI p5, oJ mn, oS, oJ mx, oS, oI ng, oI he, oI ee, oI mm, oI cr, oI cc, oR b1, oJ nn, oS, oI ng, oI bs, oI ln, oR b61, oI la, oU, oU, oU, oU, oU, oU, oU, oU, oU, oU, oU, oU, oU] []
                      have J669 : ∀ (so : Int32) (hso : so = own_so ng ln), own_Go X140 (Q0 Z q0 q1 q2 p3 p4 p5 h0 n0) 2 41 669 #[oJ q0, oS, oJ q1, oS, oJ q2, oS, oI p3, oI p4, oI p5, oJ mn, oS, oJ mx, oS, oI ng, oI he, oI ee, oI mm, oI cr, oI cc, oR b1, oJ nn, oS, oI ng, oI bs, oI ln, oR b61, oI la, oU, oU, oU, oU, oU, oU, oU, oU, oU, oU, oU, oU, oU] [(.int so)] := by
                        intro so hso
                        refine own_st (fun _ k => XS.istore X140.here hx rfl (hb hby at_669) rfl (l' := #[oJ q0, oS, oJ q1, oS, oJ q2, oS, oI p3, oI p4, oI p5, oJ mn, oS, oJ mx, oS, oI ng, oI he, oI ee, oI mm, oI cr, oI cc, oR b1, oJ nn, oS, oI ng, oI bs, oI ln, oR b61, oI la, oI so, oU, oU, oU, oU, oU, oU, oU, oU, oU, oU, oU, oU]) rfl k) ?_
                        show own_Go X140 (Q0 Z q0 q1 q2 p3 p4 p5 h0 n0) 2 41 671 #[oJ q0, oS, oJ q1, oS, oJ q2, oS, oI p3, oI p4, oI p5, oJ mn, oS, oJ mx, oS, oI ng, oI he, oI ee, oI mm, oI cr, oI cc, oR b1, oJ nn, oS, oI ng, oI bs, oI ln, oR b61, oI la, oI so, oU, oU, oU, oU, oU, oU, oU, oU, oU, oU, oU, oU] []
                        have J695 : ∀ (ps : Int32) (hps : ¬ so = (0 : Int32) → ng.toInt ≤ ps.toInt ∧ ps.toInt < ln.toInt), own_Go X140 (Q0 Z q0 q1 q2 p3 p4 p5 h0 n0) 2 41 695 #[oJ q0, oS, oJ q1, oS, oJ q2, oS, oI p3, oI p4, oI p5, oJ mn, oS, oJ mx, oS, oI ng, oI he, oI ee, oI mm, oI cr, oI cc, oR b1, oJ nn, oS, oI ng, oI bs, oI ln, oR b61, oI la, oI so, oU, oU, oU, oU, oU, oU, oU, oU, oU, oU, oU, oU] [(.int ps)] := by
                          intro ps hps
                          refine own_st (fun _ k => XS.istore X140.here hx rfl (hb hby at_695) rfl (l' := #[oJ q0, oS, oJ q1, oS, oJ q2, oS, oI p3, oI p4, oI p5, oJ mn, oS, oJ mx, oS, oI ng, oI he, oI ee, oI mm, oI cr, oI cc, oR b1, oJ nn, oS, oI ng, oI bs, oI ln, oR b61, oI la, oI so, oI ps, oU, oU, oU, oU, oU, oU, oU, oU, oU, oU, oU]) rfl k) ?_
                          show own_Go X140 (Q0 Z q0 q1 q2 p3 p4 p5 h0 n0) 2 41 697 #[oJ q0, oS, oJ q1, oS, oJ q2, oS, oI p3, oI p4, oI p5, oJ mn, oS, oJ mx, oS, oI ng, oI he, oI ee, oI mm, oI cr, oI cc, oR b1, oJ nn, oS, oI ng, oI bs, oI ln, oR b61, oI la, oI so, oI ps, oU, oU, oU, oU, oU, oU, oU, oU, oU, oU, oU] []
                          have J716 : ∀ (dg : Int32) (hdg : dg = own_dg cc), own_Go X140 (Q0 Z q0 q1 q2 p3 p4 p5 h0 n0) 2 41 716 #[oJ q0, oS, oJ q1, oS, oJ q2, oS, oI p3, oI p4, oI p5, oJ mn, oS, oJ mx, oS, oI ng, oI he, oI ee, oI mm, oI cr, oI cc, oR b1, oJ nn, oS, oI ng, oI bs, oI ln, oR b61, oI la, oI so, oI ps, oU, oU, oU, oU, oU, oU, oU, oU, oU, oU, oU] [(.int dg)] := by
                            intro dg hdg
                            refine own_st (fun _ k => XS.istore X140.here hx rfl (hb hby at_716) rfl (l' := #[oJ q0, oS, oJ q1, oS, oJ q2, oS, oI p3, oI p4, oI p5, oJ mn, oS, oJ mx, oS, oI ng, oI he, oI ee, oI mm, oI cr, oI cc, oR b1, oJ nn, oS, oI ng, oI bs, oI ln, oR b61, oI la, oI so, oI ps, oI dg, oU, oU, oU, oU, oU, oU, oU, oU, oU, oU]) rfl k) ?_
                            show own_Go X140 (Q0 Z q0 q1 q2 p3 p4 p5 h0 n0) 2 41 718 #[oJ q0, oS, oJ q1, oS, oJ q2, oS, oI p3, oI p4, oI p5, oJ mn, oS, oJ mx, oS, oI ng, oI he, oI ee, oI mm, oI cr, oI cc, oR b1, oJ nn, oS, oI ng, oI bs, oI ln, oR b61, oI la, oI so, oI ps, oI dg, oU, oU, oU, oU, oU, oU, oU, oU, oU, oU] []
                            have J750 : ∀ (co : Int32) (hco : co = own_co cr so dg ps cc), own_Go X140 (Q0 Z q0 q1 q2 p3 p4 p5 h0 n0) 2 41 750 #[oJ q0, oS, oJ q1, oS, oJ q2, oS, oI p3, oI p4, oI p5, oJ mn, oS, oJ mx, oS, oI ng, oI he, oI ee, oI mm, oI cr, oI cc, oR b1, oJ nn, oS, oI ng, oI bs, oI ln, oR b61, oI la, oI so, oI ps, oI dg, oU, oU, oU, oU, oU, oU, oU, oU, oU, oU] [(.int co)] := by
                              intro co hco
                              refine own_st (fun _ k => XS.istore X140.here hx rfl (hb hby at_750) rfl (l' := #[oJ q0, oS, oJ q1, oS, oJ q2, oS, oI p3, oI p4, oI p5, oJ mn, oS, oJ mx, oS, oI ng, oI he, oI ee, oI mm, oI cr, oI cc, oR b1, oJ nn, oS, oI ng, oI bs, oI ln, oR b61, oI la, oI so, oI ps, oI dg, oI co, oU, oU, oU, oU, oU, oU, oU, oU, oU]) rfl k) ?_
                              show own_Go X140 (Q0 Z q0 q1 q2 p3 p4 p5 h0 n0) 2 41 752 #[oJ q0, oS, oJ q1, oS, oJ q2, oS, oI p3, oI p4, oI p5, oJ mn, oS, oJ mx, oS, oI ng, oI he, oI ee, oI mm, oI cr, oI cc, oR b1, oJ nn, oS, oI ng, oI bs, oI ln, oR b61, oI la, oI so, oI ps, oI dg, oI co, oU, oU, oU, oU, oU, oU, oU, oU, oU] []
                              have J764 : ∀ (vv : List Value) (hvv : vv = (own_w3 (own_puts (own_w1 ng he ee) la mm nn 19) co ps cc)) {T : State} {locs : List Loc} {h : Heap} (X : Stand p l e room_1 s m #[(.long q0), (.long q1), (.long q2), (.int p3), (.int p4), (.int p5)] below meth c T locs 2 41) (_ : T.heap = h) (_ : Fr n0 locs) (_ : n0 ≤ h.size) (_ : Arv Z h b61 k61 .byte (22 : Int32) vv (.int (0 : Int32))) (_ : Arv Z h b1 k1 .long (19 : Int32) [(.long (1 : Int64)), (.long (10 : Int64)), (.long (100 : Int64)), (.long (1000 : Int64)), (.long (10000 : Int64)), (.long (100000 : Int64)), (.long (1000000 : Int64)), (.long (10000000 : Int64)), (.long (100000000 : Int64)), (.long (1000000000 : Int64)), (.long (10000000000 : Int64)), (.long (100000000000 : Int64)), (.long (1000000000000 : Int64)), (.long (10000000000000 : Int64)), (.long (100000000000000 : Int64)), (.long (1000000000000000 : Int64)), (.long (10000000000000000 : Int64)), (.long (100000000000000000 : Int64)), (.long (1000000000000000000 : Int64))] (.long (0 : Int64))), own_Go X (Q0 Z q0 q1 q2 p3 p4 p5 h0 n0) 2 41 764 #[oJ q0, oS, oJ q1, oS, oJ q2, oS, oI p3, oI p4, oI p5, oJ mn, oS, oJ mx, oS, oI ng, oI he, oI ee, oI mm, oI cr, oI cc, oR b1, oJ nn, oS, oI ng, oI bs, oI ln, oR b61, oI la, oI so, oI ps, oI dg, oI co, oU, oU, oU, oU, oU, oU, oU, oU, oU] [] := by
                                intro vv hvv T144 L144 h144 X144 e144 N144 Z144 f144_0 f144_1
                                subst hvv
                                show own_Go X144 (Q0 Z q0 q1 q2 p3 p4 p5 h0 n0) 2 41 764 #[oJ q0, oS, oJ q1, oS, oJ q2, oS, oI p3, oI p4, oI p5, oJ mn, oS, oJ mx, oS, oI ng, oI he, oI ee, oI mm, oI cr, oI cc, oR b1, oJ nn, oS, oI ng, oI bs, oI ln, oR b61, oI la, oI so, oI ps, oI dg, oI co, oU, oU, oU, oU, oU, oU, oU, oU, oU] []
                                have J784 : ∀ (rr : Int64) (hrr : rr = own_rr nn mm), own_Go X144 (Q0 Z q0 q1 q2 p3 p4 p5 h0 n0) 2 41 784 #[oJ q0, oS, oJ q1, oS, oJ q2, oS, oI p3, oI p4, oI p5, oJ mn, oS, oJ mx, oS, oI ng, oI he, oI ee, oI mm, oI cr, oI cc, oR b1, oJ nn, oS, oI ng, oI bs, oI ln, oR b61, oI la, oI so, oI ps, oI dg, oI co, oU, oU, oU, oU, oU, oU, oU, oU, oU] [(.long rr)] := by
                                  intro rr hrr
                                  refine own_st (fun _ k => XS.lstore X144.here hx rfl (hb hby at_784) rfl (l' := #[oJ q0, oS, oJ q1, oS, oJ q2, oS, oI p3, oI p4, oI p5, oJ mn, oS, oJ mx, oS, oI ng, oI he, oI ee, oI mm, oI cr, oI cc, oR b1, oJ nn, oS, oI ng, oI bs, oI ln, oR b61, oI la, oI so, oI ps, oI dg, oI co, oJ rr, oS, oU, oU, oU, oU, oU, oU, oU]) rfl k) ?_
                                  show own_Go X144 (Q0 Z q0 q1 q2 p3 p4 p5 h0 n0) 2 41 786 #[oJ q0, oS, oJ q1, oS, oJ q2, oS, oI p3, oI p4, oI p5, oJ mn, oS, oJ mx, oS, oI ng, oI he, oI ee, oI mm, oI cr, oI cc, oR b1, oJ nn, oS, oI ng, oI bs, oI ln, oR b61, oI la, oI so, oI ps, oI dg, oI co, oJ rr, oS, oU, oU, oU, oU, oU, oU, oU] []
                                  have J815 : ∀ (tv : Int64) (htv : tv = own_tv he ee mm), own_Go X144 (Q0 Z q0 q1 q2 p3 p4 p5 h0 n0) 2 41 815 #[oJ q0, oS, oJ q1, oS, oJ q2, oS, oI p3, oI p4, oI p5, oJ mn, oS, oJ mx, oS, oI ng, oI he, oI ee, oI mm, oI cr, oI cc, oR b1, oJ nn, oS, oI ng, oI bs, oI ln, oR b61, oI la, oI so, oI ps, oI dg, oI co, oJ rr, oS, oU, oU, oU, oU, oU, oU, oU] [(.long tv)] := by
                                    intro tv htv
                                    refine own_st (fun _ k => XS.lstore X144.here hx rfl (hb hby at_815) rfl (l' := #[oJ q0, oS, oJ q1, oS, oJ q2, oS, oI p3, oI p4, oI p5, oJ mn, oS, oJ mx, oS, oI ng, oI he, oI ee, oI mm, oI cr, oI cc, oR b1, oJ nn, oS, oI ng, oI bs, oI ln, oR b61, oI la, oI so, oI ps, oI dg, oI co, oJ rr, oS, oJ tv, oS, oU, oU, oU, oU, oU]) rfl k) ?_
                                    show own_Go X144 (Q0 Z q0 q1 q2 p3 p4 p5 h0 n0) 2 41 817 #[oJ q0, oS, oJ q1, oS, oJ q2, oS, oI p3, oI p4, oI p5, oJ mn, oS, oJ mx, oS, oI ng, oI he, oI ee, oI mm, oI cr, oI cc, oR b1, oJ nn, oS, oI ng, oI bs, oI ln, oR b61, oI la, oI so, oI ps, oI dg, oI co, oJ rr, oS, oJ tv, oS, oU, oU, oU, oU, oU] []
                                    have J859 : ∀ (fi : Int32) (hfi : fi = own_fi he ee mm rr tv), own_Go X144 (Q0 Z q0 q1 q2 p3 p4 p5 h0 n0) 2 41 859 #[oJ q0, oS, oJ q1, oS, oJ q2, oS, oI p3, oI p4, oI p5, oJ mn, oS, oJ mx, oS, oI ng, oI he, oI ee, oI mm, oI cr, oI cc, oR b1, oJ nn, oS, oI ng, oI bs, oI ln, oR b61, oI la, oI so, oI ps, oI dg, oI co, oJ rr, oS, oJ tv, oS, oU, oU, oU, oU, oU] [(.int fi)] := by
                                      intro fi hfi
                                      refine own_st (fun _ k => XS.istore X144.here hx rfl (hb hby at_859) rfl (l' := #[oJ q0, oS, oJ q1, oS, oJ q2, oS, oI p3, oI p4, oI p5, oJ mn, oS, oJ mx, oS, oI ng, oI he, oI ee, oI mm, oI cr, oI cc, oR b1, oJ nn, oS, oI ng, oI bs, oI ln, oR b61, oI la, oI so, oI ps, oI dg, oI co, oJ rr, oS, oJ tv, oS, oI fi, oU, oU, oU, oU]) rfl k) ?_
                                      show own_Go X144 (Q0 Z q0 q1 q2 p3 p4 p5 h0 n0) 2 41 861 #[oJ q0, oS, oJ q1, oS, oJ q2, oS, oI p3, oI p4, oI p5, oJ mn, oS, oJ mx, oS, oI ng, oI he, oI ee, oI mm, oI cr, oI cc, oR b1, oJ nn, oS, oI ng, oI bs, oI ln, oR b61, oI la, oI so, oI ps, oI dg, oI co, oJ rr, oS, oJ tv, oS, oI fi, oU, oU, oU, oU] []
                                      refine own_st (fun _ k => XS.lload X144.here hx rfl (hb hby at_861) rfl k) ?_
                                      show own_Go X144 (Q0 Z q0 q1 q2 p3 p4 p5 h0 n0) 2 41 863 #[oJ q0, oS, oJ q1, oS, oJ q2, oS, oI p3, oI p4, oI p5, oJ mn, oS, oJ mx, oS, oI ng, oI he, oI ee, oI mm, oI cr, oI cc, oR b1, oJ nn, oS, oI ng, oI bs, oI ln, oR b61, oI la, oI so, oI ps, oI dg, oI co, oJ rr, oS, oJ tv, oS, oI fi, oU, oU, oU, oU] [(.long rr)]
                                      refine own_st (fun _ k => XS.lload X144.here hx rfl (hb hby at_863) rfl k) ?_
                                      show own_Go X144 (Q0 Z q0 q1 q2 p3 p4 p5 h0 n0) 2 41 865 #[oJ q0, oS, oJ q1, oS, oJ q2, oS, oI p3, oI p4, oI p5, oJ mn, oS, oJ mx, oS, oI ng, oI he, oI ee, oI mm, oI cr, oI cc, oR b1, oJ nn, oS, oI ng, oI bs, oI ln, oR b61, oI la, oI so, oI ps, oI dg, oI co, oJ rr, oS, oJ tv, oS, oI fi, oU, oU, oU, oU] [(.long tv), (.long rr)]
                                      refine own_st (fun _ k => XS.lsub X144.here hx rfl (hb hby at_865) rfl k) ?_
                                      show own_Go X144 (Q0 Z q0 q1 q2 p3 p4 p5 h0 n0) 2 41 866 #[oJ q0, oS, oJ q1, oS, oJ q2, oS, oI p3, oI p4, oI p5, oJ mn, oS, oJ mx, oS, oI ng, oI he, oI ee, oI mm, oI cr, oI cc, oR b1, oJ nn, oS, oI ng, oI bs, oI ln, oR b61, oI la, oI so, oI ps, oI dg, oI co, oJ rr, oS, oJ tv, oS, oI fi, oU, oU, oU, oU] [(.long (rr - tv))]
                                      refine own_st (fun _ k => XS.lstore X144.here hx rfl (hb hby at_866) rfl (l' := #[oJ q0, oS, oJ q1, oS, oJ q2, oS, oI p3, oI p4, oI p5, oJ mn, oS, oJ mx, oS, oI ng, oI he, oI ee, oI mm, oI cr, oI cc, oR b1, oJ nn, oS, oI ng, oI bs, oI ln, oR b61, oI la, oI so, oI ps, oI dg, oI co, oJ rr, oS, oJ tv, oS, oI fi, oJ (rr - tv), oS, oU, oU]) rfl k) ?_
                                      show own_Go X144 (Q0 Z q0 q1 q2 p3 p4 p5 h0 n0) 2 41 868 #[oJ q0, oS, oJ q1, oS, oJ q2, oS, oI p3, oI p4, oI p5, oJ mn, oS, oJ mx, oS, oI ng, oI he, oI ee, oI mm, oI cr, oI cc, oR b1, oJ nn, oS, oI ng, oI bs, oI ln, oR b61, oI la, oI so, oI ps, oI dg, oI co, oJ rr, oS, oJ tv, oS, oI fi, oJ (rr - tv), oS, oU, oU] []
                                      generalize hlw : (rr - tv) = lw
                                      show own_Go X144 (Q0 Z q0 q1 q2 p3 p4 p5 h0 n0) 2 41 868 #[oJ q0, oS, oJ q1, oS, oJ q2, oS, oI p3, oI p4, oI p5, oJ mn, oS, oJ mx, oS, oI ng, oI he, oI ee, oI mm, oI cr, oI cc, oR b1, oJ nn, oS, oI ng, oI bs, oI ln, oR b61, oI la, oI so, oI ps, oI dg, oI co, oJ rr, oS, oJ tv, oS, oI fi, oJ lw, oS, oU, oU] []
                                      have J929 : ∀ (ir : Int32) (hir : ir = own_ir ng mn mx lw), own_Go X144 (Q0 Z q0 q1 q2 p3 p4 p5 h0 n0) 2 41 929 #[oJ q0, oS, oJ q1, oS, oJ q2, oS, oI p3, oI p4, oI p5, oJ mn, oS, oJ mx, oS, oI ng, oI he, oI ee, oI mm, oI cr, oI cc, oR b1, oJ nn, oS, oI ng, oI bs, oI ln, oR b61, oI la, oI so, oI ps, oI dg, oI co, oJ rr, oS, oJ tv, oS, oI fi, oJ lw, oS, oU, oU] [(.int ir)] := by
                                        intro ir hir
                                        refine own_st (fun _ k => XS.istore X144.here hx rfl (hb hby at_929) rfl (l' := #[oJ q0, oS, oJ q1, oS, oJ q2, oS, oI p3, oI p4, oI p5, oJ mn, oS, oJ mx, oS, oI ng, oI he, oI ee, oI mm, oI cr, oI cc, oR b1, oJ nn, oS, oI ng, oI bs, oI ln, oR b61, oI la, oI so, oI ps, oI dg, oI co, oJ rr, oS, oJ tv, oS, oI fi, oJ lw, oS, oI ir, oU]) rfl k) ?_
                                        show own_Go X144 (Q0 Z q0 q1 q2 p3 p4 p5 h0 n0) 2 41 931 #[oJ q0, oS, oJ q1, oS, oJ q2, oS, oI p3, oI p4, oI p5, oJ mn, oS, oJ mx, oS, oI ng, oI he, oI ee, oI mm, oI cr, oI cc, oR b1, oJ nn, oS, oI ng, oI bs, oI ln, oR b61, oI la, oI so, oI ps, oI dg, oI co, oJ rr, oS, oJ tv, oS, oI fi, oJ lw, oS, oI ir, oU] []
                                        have J956 : ∀ (ex : Int32) (hex : ex = own_ex so co fi ir), own_Go X144 (Q0 Z q0 q1 q2 p3 p4 p5 h0 n0) 2 41 956 #[oJ q0, oS, oJ q1, oS, oJ q2, oS, oI p3, oI p4, oI p5, oJ mn, oS, oJ mx, oS, oI ng, oI he, oI ee, oI mm, oI cr, oI cc, oR b1, oJ nn, oS, oI ng, oI bs, oI ln, oR b61, oI la, oI so, oI ps, oI dg, oI co, oJ rr, oS, oJ tv, oS, oI fi, oJ lw, oS, oI ir, oU] [(.int ex)] := by
                                          intro ex hex
                                          refine own_st (fun _ k => XS.istore X144.here hx rfl (hb hby at_956) rfl (l' := #[oJ q0, oS, oJ q1, oS, oJ q2, oS, oI p3, oI p4, oI p5, oJ mn, oS, oJ mx, oS, oI ng, oI he, oI ee, oI mm, oI cr, oI cc, oR b1, oJ nn, oS, oI ng, oI bs, oI ln, oR b61, oI la, oI so, oI ps, oI dg, oI co, oJ rr, oS, oJ tv, oS, oI fi, oJ lw, oS, oI ir, oI ex]) rfl k) ?_
                                          show own_Go X144 (Q0 Z q0 q1 q2 p3 p4 p5 h0 n0) 2 41 958 #[oJ q0, oS, oJ q1, oS, oJ q2, oS, oI p3, oI p4, oI p5, oJ mn, oS, oJ mx, oS, oI ng, oI he, oI ee, oI mm, oI cr, oI cc, oR b1, oJ nn, oS, oI ng, oI bs, oI ln, oR b61, oI la, oI so, oI ps, oI dg, oI co, oJ rr, oS, oJ tv, oS, oI fi, oJ lw, oS, oI ir, oI ex] []
                                          refine own_st (fun _ k => XS.aload X144.here hx rfl (hb hby at_958) rfl rfl k) ?_
                                          show own_Go X144 (Q0 Z q0 q1 q2 p3 p4 p5 h0 n0) 2 41 960 #[oJ q0, oS, oJ q1, oS, oJ q2, oS, oI p3, oI p4, oI p5, oJ mn, oS, oJ mx, oS, oI ng, oI he, oI ee, oI mm, oI cr, oI cc, oR b1, oJ nn, oS, oI ng, oI bs, oI ln, oR b61, oI la, oI so, oI ps, oI dg, oI co, oJ rr, oS, oJ tv, oS, oI fi, oJ lw, oS, oI ir, oI ex] [(.ref b61)]
                                          refine own_st (fun _ k => XS.iload X144.here hx rfl (hb hby at_960) rfl k) ?_
                                          show own_Go X144 (Q0 Z q0 q1 q2 p3 p4 p5 h0 n0) 2 41 962 #[oJ q0, oS, oJ q1, oS, oJ q2, oS, oI p3, oI p4, oI p5, oJ mn, oS, oJ mx, oS, oI ng, oI he, oI ee, oI mm, oI cr, oI cc, oR b1, oJ nn, oS, oI ng, oI bs, oI ln, oR b61, oI la, oI so, oI ps, oI dg, oI co, oJ rr, oS, oJ tv, oS, oI fi, oJ lw, oS, oI ir, oI ex] [(.int ln), (.ref b61)]
                                          refine own_st (fun _ k => XS.lload X144.here hx rfl (hb hby at_962) rfl k) ?_
                                          show own_Go X144 (Q0 Z q0 q1 q2 p3 p4 p5 h0 n0) 2 41 964 #[oJ q0, oS, oJ q1, oS, oJ q2, oS, oI p3, oI p4, oI p5, oJ mn, oS, oJ mx, oS, oI ng, oI he, oI ee, oI mm, oI cr, oI cc, oR b1, oJ nn, oS, oI ng, oI bs, oI ln, oR b61, oI la, oI so, oI ps, oI dg, oI co, oJ rr, oS, oJ tv, oS, oI fi, oJ lw, oS, oI ir, oI ex] [(.long mn), (.int ln), (.ref b61)]
                                          refine own_st (fun _ k => XS.lload X144.here hx rfl (hb hby at_964) rfl k) ?_
                                          show own_Go X144 (Q0 Z q0 q1 q2 p3 p4 p5 h0 n0) 2 41 966 #[oJ q0, oS, oJ q1, oS, oJ q2, oS, oI p3, oI p4, oI p5, oJ mn, oS, oJ mx, oS, oI ng, oI he, oI ee, oI mm, oI cr, oI cc, oR b1, oJ nn, oS, oI ng, oI bs, oI ln, oR b61, oI la, oI so, oI ps, oI dg, oI co, oJ rr, oS, oJ tv, oS, oI fi, oJ lw, oS, oI ir, oI ex] [(.long mx), (.long mn), (.int ln), (.ref b61)]
                                          refine own_callS (W := 0) X144 hx hZ hown (hw _ (List.mem_of_getElem? (i := 27) rfl)) (hw _ (List.mem_of_getElem? (i := 28) rfl)) (hw _ (List.mem_of_getElem? (i := 29) rfl)) (hw _ (List.mem_of_getElem? (i := 30) rfl)) (by decide) (rm2 l Z a0 hw [] b61 ln mn mx k61 (own_w3 (own_puts (own_w1 ng he ee) la mm nn 19) co ps cc) (own_fb (own_w3 (own_puts (own_w1 ng he ee) la mm nn 19) co ps cc)) h144 n0 Z144 f144_0 ⟨by omega, hL22⟩ (own_fbs (own_aw3 (own_aputs (own_aw1 ng he ee) 19)))) (by decide) (by decide) (by rw [hml]; rfl) [(.ref b61), (.int ln), (.long mn), (.long mx)] [] (lenOf pd_0_1 rfl) rfl rfl (Nat.le_of_ble_eq_true rfl) (hb hby at_966) e144 (by decide) (by decide) ?_
                                          rintro _ T145 L145 X145 ⟨rfl, N145q, e145⟩
                                          have N_146 := Fr.app N144 N145q
                                          show own_Go X145 (Q0 Z q0 q1 q2 p3 p4 p5 h0 n0) 2 41 969 #[oJ q0, oS, oJ q1, oS, oJ q2, oS, oI p3, oI p4, oI p5, oJ mn, oS, oJ mx, oS, oI ng, oI he, oI ee, oI mm, oI cr, oI cc, oR b1, oJ nn, oS, oI ng, oI bs, oI ln, oR b61, oI la, oI so, oI ps, oI dg, oI co, oJ rr, oS, oJ tv, oS, oI fi, oJ lw, oS, oI ir, oI ex] [(.int (own_ii (own_fb (own_w3 (own_puts (own_w1 ng he ee) la mm nn 19) co ps cc)) ln mn mx))]
                                          refine own_st (fun _ k => XS.iload X145.here hx rfl (hb hby at_969) rfl k) ?_
                                          show own_Go X145 (Q0 Z q0 q1 q2 p3 p4 p5 h0 n0) 2 41 971 #[oJ q0, oS, oJ q1, oS, oJ q2, oS, oI p3, oI p4, oI p5, oJ mn, oS, oJ mx, oS, oI ng, oI he, oI ee, oI mm, oI cr, oI cc, oR b1, oJ nn, oS, oI ng, oI bs, oI ln, oR b61, oI la, oI so, oI ps, oI dg, oI co, oJ rr, oS, oJ tv, oS, oI fi, oJ lw, oS, oI ir, oI ex] [(.int ex), (.int (own_ii (own_fb (own_w3 (own_puts (own_w1 ng he ee) la mm nn 19) co ps cc)) ln mn mx))]
                                          have c971_147 : (own_ii (own_fb (own_w3 (own_puts (own_w1 ng he ee) la mm nn 19) co ps cc)) ln mn mx) = ex := by subst hex; exact own_law hng hhe heB hmB hmn hmx hnn hbv hlv hla' hcc hso hps hdg hco hrr htv hfi hlw hir
                                          refine own_st (fun _ k => XS.icmpNo X145.here hx rfl (hb hby at_971) rfl (teq c971_147).2 k) ?_
                                          show own_Go X145 (Q0 Z q0 q1 q2 p3 p4 p5 h0 n0) 2 41 974 #[oJ q0, oS, oJ q1, oS, oJ q2, oS, oI p3, oI p4, oI p5, oJ mn, oS, oJ mx, oS, oI ng, oI he, oI ee, oI mm, oI cr, oI cc, oR b1, oJ nn, oS, oI ng, oI bs, oI ln, oR b61, oI la, oI so, oI ps, oI dg, oI co, oJ rr, oS, oJ tv, oS, oI fi, oJ lw, oS, oI ir, oI ex] []
                                          refine own_st (fun _ k => XS.iconst X145.here hx rfl (hb hby at_974) k) ?_
                                          show own_Go X145 (Q0 Z q0 q1 q2 p3 p4 p5 h0 n0) 2 41 975 #[oJ q0, oS, oJ q1, oS, oJ q2, oS, oI p3, oI p4, oI p5, oJ mn, oS, oJ mx, oS, oI ng, oI he, oI ee, oI mm, oI cr, oI cc, oR b1, oJ nn, oS, oI ng, oI bs, oI ln, oR b61, oI la, oI so, oI ps, oI dg, oI co, oJ rr, oS, oJ tv, oS, oI fi, oJ lw, oS, oI ir, oI ex] [(.int (1 : Int32))]
                                          refine own_st (fun _ k => XS.goto X145.here hx rfl (pc0 := 975) (pc' := 979) rfl (hb hby at_975) (by decide) (by decide) k) ?_
                                          show own_Go X145 (Q0 Z q0 q1 q2 p3 p4 p5 h0 n0) 2 41 979 #[oJ q0, oS, oJ q1, oS, oJ q2, oS, oI p3, oI p4, oI p5, oJ mn, oS, oJ mx, oS, oI ng, oI he, oI ee, oI mm, oI cr, oI cc, oR b1, oJ nn, oS, oI ng, oI bs, oI ln, oR b61, oI la, oI so, oI ps, oI dg, oI co, oJ rr, oS, oJ tv, oS, oI fi, oJ lw, oS, oI ir, oI ex] [(.int (1 : Int32))]
                                          refine own_retN X145 hx Bd.returns (by simp) hlk e145 (hb hby at_979) (by decide) (by decide) ?_
                                          exact ⟨rfl, N_146⟩
                                        refine own_st (fun _ k => XS.iload X144.here hx rfl (hb hby at_931) rfl k) ?_
                                        show own_Go X144 (Q0 Z q0 q1 q2 p3 p4 p5 h0 n0) 2 41 933 #[oJ q0, oS, oJ q1, oS, oJ q2, oS, oI p3, oI p4, oI p5, oJ mn, oS, oJ mx, oS, oI ng, oI he, oI ee, oI mm, oI cr, oI cc, oR b1, oJ nn, oS, oI ng, oI bs, oI ln, oR b61, oI la, oI so, oI ps, oI dg, oI co, oJ rr, oS, oJ tv, oS, oI fi, oJ lw, oS, oI ir, oU] [(.int so)]
                                        by_cases c933_148 : so = (0 : Int32)
                                        · skip
                                          refine own_st (fun _ k => XS.ifYes X144.here hx rfl (pc0 := 933) (pc' := 955) rfl (hb hby at_933) rfl ((if0 _ _).trans (teq c933_148).1) (by decide) (by decide) k) ?_
                                          show own_Go X144 (Q0 Z q0 q1 q2 p3 p4 p5 h0 n0) 2 41 955 #[oJ q0, oS, oJ q1, oS, oJ q2, oS, oI p3, oI p4, oI p5, oJ mn, oS, oJ mx, oS, oI ng, oI he, oI ee, oI mm, oI cr, oI cc, oR b1, oJ nn, oS, oI ng, oI bs, oI ln, oR b61, oI la, oI so, oI ps, oI dg, oI co, oJ rr, oS, oJ tv, oS, oI fi, oJ lw, oS, oI ir, oU] []
                                          refine own_st (fun _ k => XS.iconst X144.here hx rfl (hb hby at_955) k) ?_
                                          show own_Go X144 (Q0 Z q0 q1 q2 p3 p4 p5 h0 n0) 2 41 956 #[oJ q0, oS, oJ q1, oS, oJ q2, oS, oI p3, oI p4, oI p5, oJ mn, oS, oJ mx, oS, oI ng, oI he, oI ee, oI mm, oI cr, oI cc, oR b1, oJ nn, oS, oI ng, oI bs, oI ln, oR b61, oI la, oI so, oI ps, oI dg, oI co, oJ rr, oS, oJ tv, oS, oI fi, oJ lw, oS, oI ir, oU] [(.int (0 : Int32))]
                                          exact J956 _ (by unfold own_ex; rw [if_pos c933_148])
                                        · skip
                                          refine own_st (fun _ k => XS.ifNo X144.here hx rfl (hb hby at_933) rfl ((if0 _ _).trans (feq c933_148).1) k) ?_
                                          show own_Go X144 (Q0 Z q0 q1 q2 p3 p4 p5 h0 n0) 2 41 936 #[oJ q0, oS, oJ q1, oS, oJ q2, oS, oI p3, oI p4, oI p5, oJ mn, oS, oJ mx, oS, oI ng, oI he, oI ee, oI mm, oI cr, oI cc, oR b1, oJ nn, oS, oI ng, oI bs, oI ln, oR b61, oI la, oI so, oI ps, oI dg, oI co, oJ rr, oS, oJ tv, oS, oI fi, oJ lw, oS, oI ir, oU] []
                                          refine own_st (fun _ k => XS.iload X144.here hx rfl (hb hby at_936) rfl k) ?_
                                          show own_Go X144 (Q0 Z q0 q1 q2 p3 p4 p5 h0 n0) 2 41 938 #[oJ q0, oS, oJ q1, oS, oJ q2, oS, oI p3, oI p4, oI p5, oJ mn, oS, oJ mx, oS, oI ng, oI he, oI ee, oI mm, oI cr, oI cc, oR b1, oJ nn, oS, oI ng, oI bs, oI ln, oR b61, oI la, oI so, oI ps, oI dg, oI co, oJ rr, oS, oJ tv, oS, oI fi, oJ lw, oS, oI ir, oU] [(.int co)]
                                          by_cases c938_149 : co = (0 : Int32)
                                          · skip
                                            refine own_st (fun _ k => XS.ifNo X144.here hx rfl (hb hby at_938) rfl ((if0 _ _).trans (teq c938_149).2) k) ?_
                                            show own_Go X144 (Q0 Z q0 q1 q2 p3 p4 p5 h0 n0) 2 41 941 #[oJ q0, oS, oJ q1, oS, oJ q2, oS, oI p3, oI p4, oI p5, oJ mn, oS, oJ mx, oS, oI ng, oI he, oI ee, oI mm, oI cr, oI cc, oR b1, oJ nn, oS, oI ng, oI bs, oI ln, oR b61, oI la, oI so, oI ps, oI dg, oI co, oJ rr, oS, oJ tv, oS, oI fi, oJ lw, oS, oI ir, oU] []
                                            refine own_st (fun _ k => XS.iload X144.here hx rfl (hb hby at_941) rfl k) ?_
                                            show own_Go X144 (Q0 Z q0 q1 q2 p3 p4 p5 h0 n0) 2 41 943 #[oJ q0, oS, oJ q1, oS, oJ q2, oS, oI p3, oI p4, oI p5, oJ mn, oS, oJ mx, oS, oI ng, oI he, oI ee, oI mm, oI cr, oI cc, oR b1, oJ nn, oS, oI ng, oI bs, oI ln, oR b61, oI la, oI so, oI ps, oI dg, oI co, oJ rr, oS, oJ tv, oS, oI fi, oJ lw, oS, oI ir, oU] [(.int fi)]
                                            by_cases c943_150 : fi = (0 : Int32)
                                            · skip
                                              refine own_st (fun _ k => XS.ifYes X144.here hx rfl (pc0 := 943) (pc' := 955) rfl (hb hby at_943) rfl ((if0 _ _).trans (teq c943_150).1) (by decide) (by decide) k) ?_
                                              show own_Go X144 (Q0 Z q0 q1 q2 p3 p4 p5 h0 n0) 2 41 955 #[oJ q0, oS, oJ q1, oS, oJ q2, oS, oI p3, oI p4, oI p5, oJ mn, oS, oJ mx, oS, oI ng, oI he, oI ee, oI mm, oI cr, oI cc, oR b1, oJ nn, oS, oI ng, oI bs, oI ln, oR b61, oI la, oI so, oI ps, oI dg, oI co, oJ rr, oS, oJ tv, oS, oI fi, oJ lw, oS, oI ir, oU] []
                                              refine own_st (fun _ k => XS.iconst X144.here hx rfl (hb hby at_955) k) ?_
                                              show own_Go X144 (Q0 Z q0 q1 q2 p3 p4 p5 h0 n0) 2 41 956 #[oJ q0, oS, oJ q1, oS, oJ q2, oS, oI p3, oI p4, oI p5, oJ mn, oS, oJ mx, oS, oI ng, oI he, oI ee, oI mm, oI cr, oI cc, oR b1, oJ nn, oS, oI ng, oI bs, oI ln, oR b61, oI la, oI so, oI ps, oI dg, oI co, oJ rr, oS, oJ tv, oS, oI fi, oJ lw, oS, oI ir, oU] [(.int (0 : Int32))]
                                              exact J956 _ (by unfold own_ex; rw [if_neg c933_148, if_pos c938_149, if_pos c943_150])
                                            · skip
                                              refine own_st (fun _ k => XS.ifNo X144.here hx rfl (hb hby at_943) rfl ((if0 _ _).trans (feq c943_150).1) k) ?_
                                              show own_Go X144 (Q0 Z q0 q1 q2 p3 p4 p5 h0 n0) 2 41 946 #[oJ q0, oS, oJ q1, oS, oJ q2, oS, oI p3, oI p4, oI p5, oJ mn, oS, oJ mx, oS, oI ng, oI he, oI ee, oI mm, oI cr, oI cc, oR b1, oJ nn, oS, oI ng, oI bs, oI ln, oR b61, oI la, oI so, oI ps, oI dg, oI co, oJ rr, oS, oJ tv, oS, oI fi, oJ lw, oS, oI ir, oU] []
                                              refine own_st (fun _ k => XS.iload X144.here hx rfl (hb hby at_946) rfl k) ?_
                                              show own_Go X144 (Q0 Z q0 q1 q2 p3 p4 p5 h0 n0) 2 41 948 #[oJ q0, oS, oJ q1, oS, oJ q2, oS, oI p3, oI p4, oI p5, oJ mn, oS, oJ mx, oS, oI ng, oI he, oI ee, oI mm, oI cr, oI cc, oR b1, oJ nn, oS, oI ng, oI bs, oI ln, oR b61, oI la, oI so, oI ps, oI dg, oI co, oJ rr, oS, oJ tv, oS, oI fi, oJ lw, oS, oI ir, oU] [(.int ir)]
                                              by_cases c948_151 : ir = (0 : Int32)
                                              · skip
                                                refine own_st (fun _ k => XS.ifYes X144.here hx rfl (pc0 := 948) (pc' := 955) rfl (hb hby at_948) rfl ((if0 _ _).trans (teq c948_151).1) (by decide) (by decide) k) ?_
                                                show own_Go X144 (Q0 Z q0 q1 q2 p3 p4 p5 h0 n0) 2 41 955 #[oJ q0, oS, oJ q1, oS, oJ q2, oS, oI p3, oI p4, oI p5, oJ mn, oS, oJ mx, oS, oI ng, oI he, oI ee, oI mm, oI cr, oI cc, oR b1, oJ nn, oS, oI ng, oI bs, oI ln, oR b61, oI la, oI so, oI ps, oI dg, oI co, oJ rr, oS, oJ tv, oS, oI fi, oJ lw, oS, oI ir, oU] []
                                                refine own_st (fun _ k => XS.iconst X144.here hx rfl (hb hby at_955) k) ?_
                                                show own_Go X144 (Q0 Z q0 q1 q2 p3 p4 p5 h0 n0) 2 41 956 #[oJ q0, oS, oJ q1, oS, oJ q2, oS, oI p3, oI p4, oI p5, oJ mn, oS, oJ mx, oS, oI ng, oI he, oI ee, oI mm, oI cr, oI cc, oR b1, oJ nn, oS, oI ng, oI bs, oI ln, oR b61, oI la, oI so, oI ps, oI dg, oI co, oJ rr, oS, oJ tv, oS, oI fi, oJ lw, oS, oI ir, oU] [(.int (0 : Int32))]
                                                exact J956 _ (by unfold own_ex; rw [if_neg c933_148, if_pos c938_149, if_neg c943_150, if_pos c948_151])
                                              · skip
                                                refine own_st (fun _ k => XS.ifNo X144.here hx rfl (hb hby at_948) rfl ((if0 _ _).trans (feq c948_151).1) k) ?_
                                                show own_Go X144 (Q0 Z q0 q1 q2 p3 p4 p5 h0 n0) 2 41 951 #[oJ q0, oS, oJ q1, oS, oJ q2, oS, oI p3, oI p4, oI p5, oJ mn, oS, oJ mx, oS, oI ng, oI he, oI ee, oI mm, oI cr, oI cc, oR b1, oJ nn, oS, oI ng, oI bs, oI ln, oR b61, oI la, oI so, oI ps, oI dg, oI co, oJ rr, oS, oJ tv, oS, oI fi, oJ lw, oS, oI ir, oU] []
                                                refine own_st (fun _ k => XS.iconst X144.here hx rfl (hb hby at_951) k) ?_
                                                show own_Go X144 (Q0 Z q0 q1 q2 p3 p4 p5 h0 n0) 2 41 952 #[oJ q0, oS, oJ q1, oS, oJ q2, oS, oI p3, oI p4, oI p5, oJ mn, oS, oJ mx, oS, oI ng, oI he, oI ee, oI mm, oI cr, oI cc, oR b1, oJ nn, oS, oI ng, oI bs, oI ln, oR b61, oI la, oI so, oI ps, oI dg, oI co, oJ rr, oS, oJ tv, oS, oI fi, oJ lw, oS, oI ir, oU] [(.int (1 : Int32))]
                                                refine own_st (fun _ k => XS.goto X144.here hx rfl (pc0 := 952) (pc' := 956) rfl (hb hby at_952) (by decide) (by decide) k) ?_
                                                show own_Go X144 (Q0 Z q0 q1 q2 p3 p4 p5 h0 n0) 2 41 956 #[oJ q0, oS, oJ q1, oS, oJ q2, oS, oI p3, oI p4, oI p5, oJ mn, oS, oJ mx, oS, oI ng, oI he, oI ee, oI mm, oI cr, oI cc, oR b1, oJ nn, oS, oI ng, oI bs, oI ln, oR b61, oI la, oI so, oI ps, oI dg, oI co, oJ rr, oS, oJ tv, oS, oI fi, oJ lw, oS, oI ir, oU] [(.int (1 : Int32))]
                                                exact J956 _ (by unfold own_ex; rw [if_neg c933_148, if_pos c938_149, if_neg c943_150, if_neg c948_151])
                                          · skip
                                            refine own_st (fun _ k => XS.ifYes X144.here hx rfl (pc0 := 938) (pc' := 955) rfl (hb hby at_938) rfl ((if0 _ _).trans (feq c938_149).2) (by decide) (by decide) k) ?_
                                            show own_Go X144 (Q0 Z q0 q1 q2 p3 p4 p5 h0 n0) 2 41 955 #[oJ q0, oS, oJ q1, oS, oJ q2, oS, oI p3, oI p4, oI p5, oJ mn, oS, oJ mx, oS, oI ng, oI he, oI ee, oI mm, oI cr, oI cc, oR b1, oJ nn, oS, oI ng, oI bs, oI ln, oR b61, oI la, oI so, oI ps, oI dg, oI co, oJ rr, oS, oJ tv, oS, oI fi, oJ lw, oS, oI ir, oU] []
                                            refine own_st (fun _ k => XS.iconst X144.here hx rfl (hb hby at_955) k) ?_
                                            show own_Go X144 (Q0 Z q0 q1 q2 p3 p4 p5 h0 n0) 2 41 956 #[oJ q0, oS, oJ q1, oS, oJ q2, oS, oI p3, oI p4, oI p5, oJ mn, oS, oJ mx, oS, oI ng, oI he, oI ee, oI mm, oI cr, oI cc, oR b1, oJ nn, oS, oI ng, oI bs, oI ln, oR b61, oI la, oI so, oI ps, oI dg, oI co, oJ rr, oS, oJ tv, oS, oI fi, oJ lw, oS, oI ir, oU] [(.int (0 : Int32))]
                                            exact J956 _ (by unfold own_ex; rw [if_neg c933_148, if_neg c938_149])
                                      refine own_st (fun _ k => XS.iload X144.here hx rfl (hb hby at_868) rfl k) ?_
                                      show own_Go X144 (Q0 Z q0 q1 q2 p3 p4 p5 h0 n0) 2 41 870 #[oJ q0, oS, oJ q1, oS, oJ q2, oS, oI p3, oI p4, oI p5, oJ mn, oS, oJ mx, oS, oI ng, oI he, oI ee, oI mm, oI cr, oI cc, oR b1, oJ nn, oS, oI ng, oI bs, oI ln, oR b61, oI la, oI so, oI ps, oI dg, oI co, oJ rr, oS, oJ tv, oS, oI fi, oJ lw, oS, oU, oU] [(.int ng)]
                                      by_cases c870_152 : ng = (0 : Int32)
                                      · skip
                                        refine own_st (fun _ k => XS.ifYes X144.here hx rfl (pc0 := 870) (pc' := 897) rfl (hb hby at_870) rfl ((if0 _ _).trans (teq c870_152).1) (by decide) (by decide) k) ?_
                                        show own_Go X144 (Q0 Z q0 q1 q2 p3 p4 p5 h0 n0) 2 41 897 #[oJ q0, oS, oJ q1, oS, oJ q2, oS, oI p3, oI p4, oI p5, oJ mn, oS, oJ mx, oS, oI ng, oI he, oI ee, oI mm, oI cr, oI cc, oR b1, oJ nn, oS, oI ng, oI bs, oI ln, oR b61, oI la, oI so, oI ps, oI dg, oI co, oJ rr, oS, oJ tv, oS, oI fi, oJ lw, oS, oU, oU] []
                                        refine own_st (fun _ k => XS.lload X144.here hx rfl (hb hby at_897) rfl k) ?_
                                        show own_Go X144 (Q0 Z q0 q1 q2 p3 p4 p5 h0 n0) 2 41 899 #[oJ q0, oS, oJ q1, oS, oJ q2, oS, oI p3, oI p4, oI p5, oJ mn, oS, oJ mx, oS, oI ng, oI he, oI ee, oI mm, oI cr, oI cc, oR b1, oJ nn, oS, oI ng, oI bs, oI ln, oR b61, oI la, oI so, oI ps, oI dg, oI co, oJ rr, oS, oJ tv, oS, oI fi, oJ lw, oS, oU, oU] [(.long lw)]
                                        refine own_st (fun t k => X144.ldc2Long hx hown (mvT hZ (hw _ (List.mem_of_getElem? (i := 26) rfl))) (g := (mkF m 899 #[oJ q0, oS, oJ q1, oS, oJ q2, oS, oI p3, oI p4, oI p5, oJ mn, oS, oJ mx, oS, oI ng, oI he, oI ee, oI mm, oI cr, oI cc, oR b1, oJ nn, oS, oI ng, oI bs, oI ln, oR b61, oI la, oI so, oI ps, oI dg, oI co, oJ rr, oS, oJ tv, oS, oI fi, oJ lw, oS, oU, oU] [(.long lw)])) rfl (hb hby at_899) t k) ?_
                                        show own_Go X144 (Q0 Z q0 q1 q2 p3 p4 p5 h0 n0) 2 41 902 #[oJ q0, oS, oJ q1, oS, oJ q2, oS, oI p3, oI p4, oI p5, oJ mn, oS, oJ mx, oS, oI ng, oI he, oI ee, oI mm, oI cr, oI cc, oR b1, oJ nn, oS, oI ng, oI bs, oI ln, oR b61, oI la, oI so, oI ps, oI dg, oI co, oJ rr, oS, oJ tv, oS, oI fi, oJ lw, oS, oU, oU] [(.long (-9223372036854775808 : Int64)), (.long lw)]
                                        refine own_st (fun _ k => XS.lcmp X144.here hx rfl (hb hby at_902) rfl k) ?_
                                        show own_Go X144 (Q0 Z q0 q1 q2 p3 p4 p5 h0 n0) 2 41 903 #[oJ q0, oS, oJ q1, oS, oJ q2, oS, oI p3, oI p4, oI p5, oJ mn, oS, oJ mx, oS, oI ng, oI he, oI ee, oI mm, oI cr, oI cc, oR b1, oJ nn, oS, oI ng, oI bs, oI ln, oR b61, oI la, oI so, oI ps, oI dg, oI co, oJ rr, oS, oJ tv, oS, oI fi, oJ lw, oS, oU, oU] [(.int (lcmpW lw (-9223372036854775808 : Int64)))]
                                        by_cases c903_153 : lw = (-9223372036854775808 : Int64)
                                        · skip
                                          refine own_st (fun _ k => XS.ifYes X144.here hx rfl (pc0 := 903) (pc' := 928) rfl (hb hby at_903) rfl ((if0 _ _).trans (teq ((lw_eq _ _).mpr c903_153)).1) (by decide) (by decide) k) ?_
                                          show own_Go X144 (Q0 Z q0 q1 q2 p3 p4 p5 h0 n0) 2 41 928 #[oJ q0, oS, oJ q1, oS, oJ q2, oS, oI p3, oI p4, oI p5, oJ mn, oS, oJ mx, oS, oI ng, oI he, oI ee, oI mm, oI cr, oI cc, oR b1, oJ nn, oS, oI ng, oI bs, oI ln, oR b61, oI la, oI so, oI ps, oI dg, oI co, oJ rr, oS, oJ tv, oS, oI fi, oJ lw, oS, oU, oU] []
                                          refine own_st (fun _ k => XS.iconst X144.here hx rfl (hb hby at_928) k) ?_
                                          show own_Go X144 (Q0 Z q0 q1 q2 p3 p4 p5 h0 n0) 2 41 929 #[oJ q0, oS, oJ q1, oS, oJ q2, oS, oI p3, oI p4, oI p5, oJ mn, oS, oJ mx, oS, oI ng, oI he, oI ee, oI mm, oI cr, oI cc, oR b1, oJ nn, oS, oI ng, oI bs, oI ln, oR b61, oI la, oI so, oI ps, oI dg, oI co, oJ rr, oS, oJ tv, oS, oI fi, oJ lw, oS, oU, oU] [(.int (0 : Int32))]
                                          exact J929 _ (by unfold own_ir; rw [if_pos c870_152, if_pos c903_153])
                                        · skip
                                          refine own_st (fun _ k => XS.ifNo X144.here hx rfl (hb hby at_903) rfl ((if0 _ _).trans (feq (fun q => c903_153 ((lw_eq _ _).mp q))).1) k) ?_
                                          show own_Go X144 (Q0 Z q0 q1 q2 p3 p4 p5 h0 n0) 2 41 906 #[oJ q0, oS, oJ q1, oS, oJ q2, oS, oI p3, oI p4, oI p5, oJ mn, oS, oJ mx, oS, oI ng, oI he, oI ee, oI mm, oI cr, oI cc, oR b1, oJ nn, oS, oI ng, oI bs, oI ln, oR b61, oI la, oI so, oI ps, oI dg, oI co, oJ rr, oS, oJ tv, oS, oI fi, oJ lw, oS, oU, oU] []
                                          refine own_st (fun _ k => XS.lload X144.here hx rfl (hb hby at_906) rfl k) ?_
                                          show own_Go X144 (Q0 Z q0 q1 q2 p3 p4 p5 h0 n0) 2 41 908 #[oJ q0, oS, oJ q1, oS, oJ q2, oS, oI p3, oI p4, oI p5, oJ mn, oS, oJ mx, oS, oI ng, oI he, oI ee, oI mm, oI cr, oI cc, oR b1, oJ nn, oS, oI ng, oI bs, oI ln, oR b61, oI la, oI so, oI ps, oI dg, oI co, oJ rr, oS, oJ tv, oS, oI fi, oJ lw, oS, oU, oU] [(.long mn)]
                                          refine own_st (fun _ k => XS.lload X144.here hx rfl (hb hby at_908) rfl k) ?_
                                          show own_Go X144 (Q0 Z q0 q1 q2 p3 p4 p5 h0 n0) 2 41 910 #[oJ q0, oS, oJ q1, oS, oJ q2, oS, oI p3, oI p4, oI p5, oJ mn, oS, oJ mx, oS, oI ng, oI he, oI ee, oI mm, oI cr, oI cc, oR b1, oJ nn, oS, oI ng, oI bs, oI ln, oR b61, oI la, oI so, oI ps, oI dg, oI co, oJ rr, oS, oJ tv, oS, oI fi, oJ lw, oS, oU, oU] [(.long lw), (.long mn)]
                                          refine own_st (fun _ k => XS.lneg X144.here hx rfl (hb hby at_910) rfl k) ?_
                                          show own_Go X144 (Q0 Z q0 q1 q2 p3 p4 p5 h0 n0) 2 41 911 #[oJ q0, oS, oJ q1, oS, oJ q2, oS, oI p3, oI p4, oI p5, oJ mn, oS, oJ mx, oS, oI ng, oI he, oI ee, oI mm, oI cr, oI cc, oR b1, oJ nn, oS, oI ng, oI bs, oI ln, oR b61, oI la, oI so, oI ps, oI dg, oI co, oJ rr, oS, oJ tv, oS, oI fi, oJ lw, oS, oU, oU] [(.long (-lw)), (.long mn)]
                                          refine own_st (fun _ k => XS.lcmp X144.here hx rfl (hb hby at_911) rfl k) ?_
                                          show own_Go X144 (Q0 Z q0 q1 q2 p3 p4 p5 h0 n0) 2 41 912 #[oJ q0, oS, oJ q1, oS, oJ q2, oS, oI p3, oI p4, oI p5, oJ mn, oS, oJ mx, oS, oI ng, oI he, oI ee, oI mm, oI cr, oI cc, oR b1, oJ nn, oS, oI ng, oI bs, oI ln, oR b61, oI la, oI so, oI ps, oI dg, oI co, oJ rr, oS, oJ tv, oS, oI fi, oJ lw, oS, oU, oU] [(.int (lcmpW mn (-lw)))]
                                          by_cases c912_154 : (-lw) < mn
                                          · skip
                                            refine own_st (fun _ k => XS.ifYes X144.here hx rfl (pc0 := 912) (pc' := 928) rfl (hb hby at_912) rfl ((if0 _ _).trans (tlt ((lw_gt _ _).mpr c912_154)).2.2.1) (by decide) (by decide) k) ?_
                                            show own_Go X144 (Q0 Z q0 q1 q2 p3 p4 p5 h0 n0) 2 41 928 #[oJ q0, oS, oJ q1, oS, oJ q2, oS, oI p3, oI p4, oI p5, oJ mn, oS, oJ mx, oS, oI ng, oI he, oI ee, oI mm, oI cr, oI cc, oR b1, oJ nn, oS, oI ng, oI bs, oI ln, oR b61, oI la, oI so, oI ps, oI dg, oI co, oJ rr, oS, oJ tv, oS, oI fi, oJ lw, oS, oU, oU] []
                                            refine own_st (fun _ k => XS.iconst X144.here hx rfl (hb hby at_928) k) ?_
                                            show own_Go X144 (Q0 Z q0 q1 q2 p3 p4 p5 h0 n0) 2 41 929 #[oJ q0, oS, oJ q1, oS, oJ q2, oS, oI p3, oI p4, oI p5, oJ mn, oS, oJ mx, oS, oI ng, oI he, oI ee, oI mm, oI cr, oI cc, oR b1, oJ nn, oS, oI ng, oI bs, oI ln, oR b61, oI la, oI so, oI ps, oI dg, oI co, oJ rr, oS, oJ tv, oS, oI fi, oJ lw, oS, oU, oU] [(.int (0 : Int32))]
                                            exact J929 _ (by unfold own_ir; rw [if_pos c870_152, if_neg c903_153, if_pos c912_154])
                                          · skip
                                            refine own_st (fun _ k => XS.ifNo X144.here hx rfl (hb hby at_912) rfl ((if0 _ _).trans (flt (fun q => c912_154 ((lw_gt _ _).mp q))).2.2.1) k) ?_
                                            show own_Go X144 (Q0 Z q0 q1 q2 p3 p4 p5 h0 n0) 2 41 915 #[oJ q0, oS, oJ q1, oS, oJ q2, oS, oI p3, oI p4, oI p5, oJ mn, oS, oJ mx, oS, oI ng, oI he, oI ee, oI mm, oI cr, oI cc, oR b1, oJ nn, oS, oI ng, oI bs, oI ln, oR b61, oI la, oI so, oI ps, oI dg, oI co, oJ rr, oS, oJ tv, oS, oI fi, oJ lw, oS, oU, oU] []
                                            refine own_st (fun _ k => XS.lload X144.here hx rfl (hb hby at_915) rfl k) ?_
                                            show own_Go X144 (Q0 Z q0 q1 q2 p3 p4 p5 h0 n0) 2 41 917 #[oJ q0, oS, oJ q1, oS, oJ q2, oS, oI p3, oI p4, oI p5, oJ mn, oS, oJ mx, oS, oI ng, oI he, oI ee, oI mm, oI cr, oI cc, oR b1, oJ nn, oS, oI ng, oI bs, oI ln, oR b61, oI la, oI so, oI ps, oI dg, oI co, oJ rr, oS, oJ tv, oS, oI fi, oJ lw, oS, oU, oU] [(.long lw)]
                                            refine own_st (fun _ k => XS.lneg X144.here hx rfl (hb hby at_917) rfl k) ?_
                                            show own_Go X144 (Q0 Z q0 q1 q2 p3 p4 p5 h0 n0) 2 41 918 #[oJ q0, oS, oJ q1, oS, oJ q2, oS, oI p3, oI p4, oI p5, oJ mn, oS, oJ mx, oS, oI ng, oI he, oI ee, oI mm, oI cr, oI cc, oR b1, oJ nn, oS, oI ng, oI bs, oI ln, oR b61, oI la, oI so, oI ps, oI dg, oI co, oJ rr, oS, oJ tv, oS, oI fi, oJ lw, oS, oU, oU] [(.long (-lw))]
                                            refine own_st (fun _ k => XS.lload X144.here hx rfl (hb hby at_918) rfl k) ?_
                                            show own_Go X144 (Q0 Z q0 q1 q2 p3 p4 p5 h0 n0) 2 41 920 #[oJ q0, oS, oJ q1, oS, oJ q2, oS, oI p3, oI p4, oI p5, oJ mn, oS, oJ mx, oS, oI ng, oI he, oI ee, oI mm, oI cr, oI cc, oR b1, oJ nn, oS, oI ng, oI bs, oI ln, oR b61, oI la, oI so, oI ps, oI dg, oI co, oJ rr, oS, oJ tv, oS, oI fi, oJ lw, oS, oU, oU] [(.long mx), (.long (-lw))]
                                            refine own_st (fun _ k => XS.lcmp X144.here hx rfl (hb hby at_920) rfl k) ?_
                                            show own_Go X144 (Q0 Z q0 q1 q2 p3 p4 p5 h0 n0) 2 41 921 #[oJ q0, oS, oJ q1, oS, oJ q2, oS, oI p3, oI p4, oI p5, oJ mn, oS, oJ mx, oS, oI ng, oI he, oI ee, oI mm, oI cr, oI cc, oR b1, oJ nn, oS, oI ng, oI bs, oI ln, oR b61, oI la, oI so, oI ps, oI dg, oI co, oJ rr, oS, oJ tv, oS, oI fi, oJ lw, oS, oU, oU] [(.int (lcmpW (-lw) mx))]
                                            by_cases c921_155 : mx < (-lw)
                                            · skip
                                              refine own_st (fun _ k => XS.ifYes X144.here hx rfl (pc0 := 921) (pc' := 928) rfl (hb hby at_921) rfl ((if0 _ _).trans (tlt ((lw_gt _ _).mpr c921_155)).2.2.1) (by decide) (by decide) k) ?_
                                              show own_Go X144 (Q0 Z q0 q1 q2 p3 p4 p5 h0 n0) 2 41 928 #[oJ q0, oS, oJ q1, oS, oJ q2, oS, oI p3, oI p4, oI p5, oJ mn, oS, oJ mx, oS, oI ng, oI he, oI ee, oI mm, oI cr, oI cc, oR b1, oJ nn, oS, oI ng, oI bs, oI ln, oR b61, oI la, oI so, oI ps, oI dg, oI co, oJ rr, oS, oJ tv, oS, oI fi, oJ lw, oS, oU, oU] []
                                              refine own_st (fun _ k => XS.iconst X144.here hx rfl (hb hby at_928) k) ?_
                                              show own_Go X144 (Q0 Z q0 q1 q2 p3 p4 p5 h0 n0) 2 41 929 #[oJ q0, oS, oJ q1, oS, oJ q2, oS, oI p3, oI p4, oI p5, oJ mn, oS, oJ mx, oS, oI ng, oI he, oI ee, oI mm, oI cr, oI cc, oR b1, oJ nn, oS, oI ng, oI bs, oI ln, oR b61, oI la, oI so, oI ps, oI dg, oI co, oJ rr, oS, oJ tv, oS, oI fi, oJ lw, oS, oU, oU] [(.int (0 : Int32))]
                                              exact J929 _ (by unfold own_ir; rw [if_pos c870_152, if_neg c903_153, if_neg c912_154, if_pos c921_155])
                                            · skip
                                              refine own_st (fun _ k => XS.ifNo X144.here hx rfl (hb hby at_921) rfl ((if0 _ _).trans (flt (fun q => c921_155 ((lw_gt _ _).mp q))).2.2.1) k) ?_
                                              show own_Go X144 (Q0 Z q0 q1 q2 p3 p4 p5 h0 n0) 2 41 924 #[oJ q0, oS, oJ q1, oS, oJ q2, oS, oI p3, oI p4, oI p5, oJ mn, oS, oJ mx, oS, oI ng, oI he, oI ee, oI mm, oI cr, oI cc, oR b1, oJ nn, oS, oI ng, oI bs, oI ln, oR b61, oI la, oI so, oI ps, oI dg, oI co, oJ rr, oS, oJ tv, oS, oI fi, oJ lw, oS, oU, oU] []
                                              refine own_st (fun _ k => XS.iconst X144.here hx rfl (hb hby at_924) k) ?_
                                              show own_Go X144 (Q0 Z q0 q1 q2 p3 p4 p5 h0 n0) 2 41 925 #[oJ q0, oS, oJ q1, oS, oJ q2, oS, oI p3, oI p4, oI p5, oJ mn, oS, oJ mx, oS, oI ng, oI he, oI ee, oI mm, oI cr, oI cc, oR b1, oJ nn, oS, oI ng, oI bs, oI ln, oR b61, oI la, oI so, oI ps, oI dg, oI co, oJ rr, oS, oJ tv, oS, oI fi, oJ lw, oS, oU, oU] [(.int (1 : Int32))]
                                              refine own_st (fun _ k => XS.goto X144.here hx rfl (pc0 := 925) (pc' := 929) rfl (hb hby at_925) (by decide) (by decide) k) ?_
                                              show own_Go X144 (Q0 Z q0 q1 q2 p3 p4 p5 h0 n0) 2 41 929 #[oJ q0, oS, oJ q1, oS, oJ q2, oS, oI p3, oI p4, oI p5, oJ mn, oS, oJ mx, oS, oI ng, oI he, oI ee, oI mm, oI cr, oI cc, oR b1, oJ nn, oS, oI ng, oI bs, oI ln, oR b61, oI la, oI so, oI ps, oI dg, oI co, oJ rr, oS, oJ tv, oS, oI fi, oJ lw, oS, oU, oU] [(.int (1 : Int32))]
                                              exact J929 _ (by unfold own_ir; rw [if_pos c870_152, if_neg c903_153, if_neg c912_154, if_neg c921_155])
                                      · skip
                                        refine own_st (fun _ k => XS.ifNo X144.here hx rfl (hb hby at_870) rfl ((if0 _ _).trans (feq c870_152).1) k) ?_
                                        show own_Go X144 (Q0 Z q0 q1 q2 p3 p4 p5 h0 n0) 2 41 873 #[oJ q0, oS, oJ q1, oS, oJ q2, oS, oI p3, oI p4, oI p5, oJ mn, oS, oJ mx, oS, oI ng, oI he, oI ee, oI mm, oI cr, oI cc, oR b1, oJ nn, oS, oI ng, oI bs, oI ln, oR b61, oI la, oI so, oI ps, oI dg, oI co, oJ rr, oS, oJ tv, oS, oI fi, oJ lw, oS, oU, oU] []
                                        refine own_st (fun _ k => XS.lload X144.here hx rfl (hb hby at_873) rfl k) ?_
                                        show own_Go X144 (Q0 Z q0 q1 q2 p3 p4 p5 h0 n0) 2 41 875 #[oJ q0, oS, oJ q1, oS, oJ q2, oS, oI p3, oI p4, oI p5, oJ mn, oS, oJ mx, oS, oI ng, oI he, oI ee, oI mm, oI cr, oI cc, oR b1, oJ nn, oS, oI ng, oI bs, oI ln, oR b61, oI la, oI so, oI ps, oI dg, oI co, oJ rr, oS, oJ tv, oS, oI fi, oJ lw, oS, oU, oU] [(.long mn)]
                                        refine own_st (fun _ k => XS.lload X144.here hx rfl (hb hby at_875) rfl k) ?_
                                        show own_Go X144 (Q0 Z q0 q1 q2 p3 p4 p5 h0 n0) 2 41 877 #[oJ q0, oS, oJ q1, oS, oJ q2, oS, oI p3, oI p4, oI p5, oJ mn, oS, oJ mx, oS, oI ng, oI he, oI ee, oI mm, oI cr, oI cc, oR b1, oJ nn, oS, oI ng, oI bs, oI ln, oR b61, oI la, oI so, oI ps, oI dg, oI co, oJ rr, oS, oJ tv, oS, oI fi, oJ lw, oS, oU, oU] [(.long lw), (.long mn)]
                                        refine own_st (fun _ k => XS.lcmp X144.here hx rfl (hb hby at_877) rfl k) ?_
                                        show own_Go X144 (Q0 Z q0 q1 q2 p3 p4 p5 h0 n0) 2 41 878 #[oJ q0, oS, oJ q1, oS, oJ q2, oS, oI p3, oI p4, oI p5, oJ mn, oS, oJ mx, oS, oI ng, oI he, oI ee, oI mm, oI cr, oI cc, oR b1, oJ nn, oS, oI ng, oI bs, oI ln, oR b61, oI la, oI so, oI ps, oI dg, oI co, oJ rr, oS, oJ tv, oS, oI fi, oJ lw, oS, oU, oU] [(.int (lcmpW mn lw))]
                                        by_cases c878_156 : lw < mn
                                        · skip
                                          refine own_st (fun _ k => XS.ifYes X144.here hx rfl (pc0 := 878) (pc' := 893) rfl (hb hby at_878) rfl ((if0 _ _).trans (tlt ((lw_gt _ _).mpr c878_156)).2.2.1) (by decide) (by decide) k) ?_
                                          show own_Go X144 (Q0 Z q0 q1 q2 p3 p4 p5 h0 n0) 2 41 893 #[oJ q0, oS, oJ q1, oS, oJ q2, oS, oI p3, oI p4, oI p5, oJ mn, oS, oJ mx, oS, oI ng, oI he, oI ee, oI mm, oI cr, oI cc, oR b1, oJ nn, oS, oI ng, oI bs, oI ln, oR b61, oI la, oI so, oI ps, oI dg, oI co, oJ rr, oS, oJ tv, oS, oI fi, oJ lw, oS, oU, oU] []
                                          refine own_st (fun _ k => XS.iconst X144.here hx rfl (hb hby at_893) k) ?_
                                          show own_Go X144 (Q0 Z q0 q1 q2 p3 p4 p5 h0 n0) 2 41 894 #[oJ q0, oS, oJ q1, oS, oJ q2, oS, oI p3, oI p4, oI p5, oJ mn, oS, oJ mx, oS, oI ng, oI he, oI ee, oI mm, oI cr, oI cc, oR b1, oJ nn, oS, oI ng, oI bs, oI ln, oR b61, oI la, oI so, oI ps, oI dg, oI co, oJ rr, oS, oJ tv, oS, oI fi, oJ lw, oS, oU, oU] [(.int (0 : Int32))]
                                          refine own_st (fun _ k => XS.goto X144.here hx rfl (pc0 := 894) (pc' := 929) rfl (hb hby at_894) (by decide) (by decide) k) ?_
                                          show own_Go X144 (Q0 Z q0 q1 q2 p3 p4 p5 h0 n0) 2 41 929 #[oJ q0, oS, oJ q1, oS, oJ q2, oS, oI p3, oI p4, oI p5, oJ mn, oS, oJ mx, oS, oI ng, oI he, oI ee, oI mm, oI cr, oI cc, oR b1, oJ nn, oS, oI ng, oI bs, oI ln, oR b61, oI la, oI so, oI ps, oI dg, oI co, oJ rr, oS, oJ tv, oS, oI fi, oJ lw, oS, oU, oU] [(.int (0 : Int32))]
                                          exact J929 _ (by unfold own_ir; rw [if_neg c870_152, if_pos c878_156])
                                        · skip
                                          refine own_st (fun _ k => XS.ifNo X144.here hx rfl (hb hby at_878) rfl ((if0 _ _).trans (flt (fun q => c878_156 ((lw_gt _ _).mp q))).2.2.1) k) ?_
                                          show own_Go X144 (Q0 Z q0 q1 q2 p3 p4 p5 h0 n0) 2 41 881 #[oJ q0, oS, oJ q1, oS, oJ q2, oS, oI p3, oI p4, oI p5, oJ mn, oS, oJ mx, oS, oI ng, oI he, oI ee, oI mm, oI cr, oI cc, oR b1, oJ nn, oS, oI ng, oI bs, oI ln, oR b61, oI la, oI so, oI ps, oI dg, oI co, oJ rr, oS, oJ tv, oS, oI fi, oJ lw, oS, oU, oU] []
                                          refine own_st (fun _ k => XS.lload X144.here hx rfl (hb hby at_881) rfl k) ?_
                                          show own_Go X144 (Q0 Z q0 q1 q2 p3 p4 p5 h0 n0) 2 41 883 #[oJ q0, oS, oJ q1, oS, oJ q2, oS, oI p3, oI p4, oI p5, oJ mn, oS, oJ mx, oS, oI ng, oI he, oI ee, oI mm, oI cr, oI cc, oR b1, oJ nn, oS, oI ng, oI bs, oI ln, oR b61, oI la, oI so, oI ps, oI dg, oI co, oJ rr, oS, oJ tv, oS, oI fi, oJ lw, oS, oU, oU] [(.long lw)]
                                          refine own_st (fun _ k => XS.lload X144.here hx rfl (hb hby at_883) rfl k) ?_
                                          show own_Go X144 (Q0 Z q0 q1 q2 p3 p4 p5 h0 n0) 2 41 885 #[oJ q0, oS, oJ q1, oS, oJ q2, oS, oI p3, oI p4, oI p5, oJ mn, oS, oJ mx, oS, oI ng, oI he, oI ee, oI mm, oI cr, oI cc, oR b1, oJ nn, oS, oI ng, oI bs, oI ln, oR b61, oI la, oI so, oI ps, oI dg, oI co, oJ rr, oS, oJ tv, oS, oI fi, oJ lw, oS, oU, oU] [(.long mx), (.long lw)]
                                          refine own_st (fun _ k => XS.lcmp X144.here hx rfl (hb hby at_885) rfl k) ?_
                                          show own_Go X144 (Q0 Z q0 q1 q2 p3 p4 p5 h0 n0) 2 41 886 #[oJ q0, oS, oJ q1, oS, oJ q2, oS, oI p3, oI p4, oI p5, oJ mn, oS, oJ mx, oS, oI ng, oI he, oI ee, oI mm, oI cr, oI cc, oR b1, oJ nn, oS, oI ng, oI bs, oI ln, oR b61, oI la, oI so, oI ps, oI dg, oI co, oJ rr, oS, oJ tv, oS, oI fi, oJ lw, oS, oU, oU] [(.int (lcmpW lw mx))]
                                          by_cases c886_157 : mx < lw
                                          · skip
                                            refine own_st (fun _ k => XS.ifYes X144.here hx rfl (pc0 := 886) (pc' := 893) rfl (hb hby at_886) rfl ((if0 _ _).trans (tlt ((lw_gt _ _).mpr c886_157)).2.2.1) (by decide) (by decide) k) ?_
                                            show own_Go X144 (Q0 Z q0 q1 q2 p3 p4 p5 h0 n0) 2 41 893 #[oJ q0, oS, oJ q1, oS, oJ q2, oS, oI p3, oI p4, oI p5, oJ mn, oS, oJ mx, oS, oI ng, oI he, oI ee, oI mm, oI cr, oI cc, oR b1, oJ nn, oS, oI ng, oI bs, oI ln, oR b61, oI la, oI so, oI ps, oI dg, oI co, oJ rr, oS, oJ tv, oS, oI fi, oJ lw, oS, oU, oU] []
                                            refine own_st (fun _ k => XS.iconst X144.here hx rfl (hb hby at_893) k) ?_
                                            show own_Go X144 (Q0 Z q0 q1 q2 p3 p4 p5 h0 n0) 2 41 894 #[oJ q0, oS, oJ q1, oS, oJ q2, oS, oI p3, oI p4, oI p5, oJ mn, oS, oJ mx, oS, oI ng, oI he, oI ee, oI mm, oI cr, oI cc, oR b1, oJ nn, oS, oI ng, oI bs, oI ln, oR b61, oI la, oI so, oI ps, oI dg, oI co, oJ rr, oS, oJ tv, oS, oI fi, oJ lw, oS, oU, oU] [(.int (0 : Int32))]
                                            refine own_st (fun _ k => XS.goto X144.here hx rfl (pc0 := 894) (pc' := 929) rfl (hb hby at_894) (by decide) (by decide) k) ?_
                                            show own_Go X144 (Q0 Z q0 q1 q2 p3 p4 p5 h0 n0) 2 41 929 #[oJ q0, oS, oJ q1, oS, oJ q2, oS, oI p3, oI p4, oI p5, oJ mn, oS, oJ mx, oS, oI ng, oI he, oI ee, oI mm, oI cr, oI cc, oR b1, oJ nn, oS, oI ng, oI bs, oI ln, oR b61, oI la, oI so, oI ps, oI dg, oI co, oJ rr, oS, oJ tv, oS, oI fi, oJ lw, oS, oU, oU] [(.int (0 : Int32))]
                                            exact J929 _ (by unfold own_ir; rw [if_neg c870_152, if_neg c878_156, if_pos c886_157])
                                          · skip
                                            refine own_st (fun _ k => XS.ifNo X144.here hx rfl (hb hby at_886) rfl ((if0 _ _).trans (flt (fun q => c886_157 ((lw_gt _ _).mp q))).2.2.1) k) ?_
                                            show own_Go X144 (Q0 Z q0 q1 q2 p3 p4 p5 h0 n0) 2 41 889 #[oJ q0, oS, oJ q1, oS, oJ q2, oS, oI p3, oI p4, oI p5, oJ mn, oS, oJ mx, oS, oI ng, oI he, oI ee, oI mm, oI cr, oI cc, oR b1, oJ nn, oS, oI ng, oI bs, oI ln, oR b61, oI la, oI so, oI ps, oI dg, oI co, oJ rr, oS, oJ tv, oS, oI fi, oJ lw, oS, oU, oU] []
                                            refine own_st (fun _ k => XS.iconst X144.here hx rfl (hb hby at_889) k) ?_
                                            show own_Go X144 (Q0 Z q0 q1 q2 p3 p4 p5 h0 n0) 2 41 890 #[oJ q0, oS, oJ q1, oS, oJ q2, oS, oI p3, oI p4, oI p5, oJ mn, oS, oJ mx, oS, oI ng, oI he, oI ee, oI mm, oI cr, oI cc, oR b1, oJ nn, oS, oI ng, oI bs, oI ln, oR b61, oI la, oI so, oI ps, oI dg, oI co, oJ rr, oS, oJ tv, oS, oI fi, oJ lw, oS, oU, oU] [(.int (1 : Int32))]
                                            refine own_st (fun _ k => XS.goto X144.here hx rfl (pc0 := 890) (pc' := 929) rfl (hb hby at_890) (by decide) (by decide) k) ?_
                                            show own_Go X144 (Q0 Z q0 q1 q2 p3 p4 p5 h0 n0) 2 41 929 #[oJ q0, oS, oJ q1, oS, oJ q2, oS, oI p3, oI p4, oI p5, oJ mn, oS, oJ mx, oS, oI ng, oI he, oI ee, oI mm, oI cr, oI cc, oR b1, oJ nn, oS, oI ng, oI bs, oI ln, oR b61, oI la, oI so, oI ps, oI dg, oI co, oJ rr, oS, oJ tv, oS, oI fi, oJ lw, oS, oU, oU] [(.int (1 : Int32))]
                                            exact J929 _ (by unfold own_ir; rw [if_neg c870_152, if_neg c878_156, if_neg c886_157])
                                    refine own_st (fun _ k => XS.iload X144.here hx rfl (hb hby at_817) rfl k) ?_
                                    show own_Go X144 (Q0 Z q0 q1 q2 p3 p4 p5 h0 n0) 2 41 819 #[oJ q0, oS, oJ q1, oS, oJ q2, oS, oI p3, oI p4, oI p5, oJ mn, oS, oJ mx, oS, oI ng, oI he, oI ee, oI mm, oI cr, oI cc, oR b1, oJ nn, oS, oI ng, oI bs, oI ln, oR b61, oI la, oI so, oI ps, oI dg, oI co, oJ rr, oS, oJ tv, oS, oU, oU, oU, oU, oU] [(.int mm)]
                                    refine own_st (fun _ k => XS.bipush X144.here hx rfl (hb hby at_819) k) ?_
                                    show own_Go X144 (Q0 Z q0 q1 q2 p3 p4 p5 h0 n0) 2 41 821 #[oJ q0, oS, oJ q1, oS, oJ q2, oS, oI p3, oI p4, oI p5, oJ mn, oS, oJ mx, oS, oI ng, oI he, oI ee, oI mm, oI cr, oI cc, oR b1, oJ nn, oS, oI ng, oI bs, oI ln, oR b61, oI la, oI so, oI ps, oI dg, oI co, oJ rr, oS, oJ tv, oS, oU, oU, oU, oU, oU] [(.int (19 : Int32)), (.int mm)]
                                    by_cases c821_158 : mm = (19 : Int32)
                                    · skip
                                      refine own_st (fun _ k => XS.icmpNo X144.here hx rfl (hb hby at_821) rfl (teq c821_158).2 k) ?_
                                      show own_Go X144 (Q0 Z q0 q1 q2 p3 p4 p5 h0 n0) 2 41 824 #[oJ q0, oS, oJ q1, oS, oJ q2, oS, oI p3, oI p4, oI p5, oJ mn, oS, oJ mx, oS, oI ng, oI he, oI ee, oI mm, oI cr, oI cc, oR b1, oJ nn, oS, oI ng, oI bs, oI ln, oR b61, oI la, oI so, oI ps, oI dg, oI co, oJ rr, oS, oJ tv, oS, oU, oU, oU, oU, oU] []
                                      refine own_st (fun _ k => XS.iload X144.here hx rfl (hb hby at_824) rfl k) ?_
                                      show own_Go X144 (Q0 Z q0 q1 q2 p3 p4 p5 h0 n0) 2 41 826 #[oJ q0, oS, oJ q1, oS, oJ q2, oS, oI p3, oI p4, oI p5, oJ mn, oS, oJ mx, oS, oI ng, oI he, oI ee, oI mm, oI cr, oI cc, oR b1, oJ nn, oS, oI ng, oI bs, oI ln, oR b61, oI la, oI so, oI ps, oI dg, oI co, oJ rr, oS, oJ tv, oS, oU, oU, oU, oU, oU] [(.int he)]
                                      by_cases c826_159 : he = (0 : Int32)
                                      · skip
                                        refine own_st (fun _ k => XS.ifYes X144.here hx rfl (pc0 := 826) (pc' := 834) rfl (hb hby at_826) rfl ((if0 _ _).trans (teq c826_159).1) (by decide) (by decide) k) ?_
                                        show own_Go X144 (Q0 Z q0 q1 q2 p3 p4 p5 h0 n0) 2 41 834 #[oJ q0, oS, oJ q1, oS, oJ q2, oS, oI p3, oI p4, oI p5, oJ mn, oS, oJ mx, oS, oI ng, oI he, oI ee, oI mm, oI cr, oI cc, oR b1, oJ nn, oS, oI ng, oI bs, oI ln, oR b61, oI la, oI so, oI ps, oI dg, oI co, oJ rr, oS, oJ tv, oS, oU, oU, oU, oU, oU] []
                                        refine own_st (fun _ k => XS.iconst X144.here hx rfl (hb hby at_834) k) ?_
                                        show own_Go X144 (Q0 Z q0 q1 q2 p3 p4 p5 h0 n0) 2 41 835 #[oJ q0, oS, oJ q1, oS, oJ q2, oS, oI p3, oI p4, oI p5, oJ mn, oS, oJ mx, oS, oI ng, oI he, oI ee, oI mm, oI cr, oI cc, oR b1, oJ nn, oS, oI ng, oI bs, oI ln, oR b61, oI la, oI so, oI ps, oI dg, oI co, oJ rr, oS, oJ tv, oS, oU, oU, oU, oU, oU] [(.int (1 : Int32))]
                                        refine own_st (fun _ k => XS.goto X144.here hx rfl (pc0 := 835) (pc' := 859) rfl (hb hby at_835) (by decide) (by decide) k) ?_
                                        show own_Go X144 (Q0 Z q0 q1 q2 p3 p4 p5 h0 n0) 2 41 859 #[oJ q0, oS, oJ q1, oS, oJ q2, oS, oI p3, oI p4, oI p5, oJ mn, oS, oJ mx, oS, oI ng, oI he, oI ee, oI mm, oI cr, oI cc, oR b1, oJ nn, oS, oI ng, oI bs, oI ln, oR b61, oI la, oI so, oI ps, oI dg, oI co, oJ rr, oS, oJ tv, oS, oU, oU, oU, oU, oU] [(.int (1 : Int32))]
                                        exact J859 _ (by unfold own_fi; rw [if_pos c821_158, if_pos c826_159])
                                      · skip
                                        refine own_st (fun _ k => XS.ifNo X144.here hx rfl (hb hby at_826) rfl ((if0 _ _).trans (feq c826_159).1) k) ?_
                                        show own_Go X144 (Q0 Z q0 q1 q2 p3 p4 p5 h0 n0) 2 41 829 #[oJ q0, oS, oJ q1, oS, oJ q2, oS, oI p3, oI p4, oI p5, oJ mn, oS, oJ mx, oS, oI ng, oI he, oI ee, oI mm, oI cr, oI cc, oR b1, oJ nn, oS, oI ng, oI bs, oI ln, oR b61, oI la, oI so, oI ps, oI dg, oI co, oJ rr, oS, oJ tv, oS, oU, oU, oU, oU, oU] []
                                        refine own_st (fun _ k => XS.iload X144.here hx rfl (hb hby at_829) rfl k) ?_
                                        show own_Go X144 (Q0 Z q0 q1 q2 p3 p4 p5 h0 n0) 2 41 831 #[oJ q0, oS, oJ q1, oS, oJ q2, oS, oI p3, oI p4, oI p5, oJ mn, oS, oJ mx, oS, oI ng, oI he, oI ee, oI mm, oI cr, oI cc, oR b1, oJ nn, oS, oI ng, oI bs, oI ln, oR b61, oI la, oI so, oI ps, oI dg, oI co, oJ rr, oS, oJ tv, oS, oU, oU, oU, oU, oU] [(.int ee)]
                                        by_cases c831_160 : ee = (0 : Int32)
                                        · skip
                                          refine own_st (fun _ k => XS.ifNo X144.here hx rfl (hb hby at_831) rfl ((if0 _ _).trans (teq c831_160).2) k) ?_
                                          show own_Go X144 (Q0 Z q0 q1 q2 p3 p4 p5 h0 n0) 2 41 834 #[oJ q0, oS, oJ q1, oS, oJ q2, oS, oI p3, oI p4, oI p5, oJ mn, oS, oJ mx, oS, oI ng, oI he, oI ee, oI mm, oI cr, oI cc, oR b1, oJ nn, oS, oI ng, oI bs, oI ln, oR b61, oI la, oI so, oI ps, oI dg, oI co, oJ rr, oS, oJ tv, oS, oU, oU, oU, oU, oU] []
                                          refine own_st (fun _ k => XS.iconst X144.here hx rfl (hb hby at_834) k) ?_
                                          show own_Go X144 (Q0 Z q0 q1 q2 p3 p4 p5 h0 n0) 2 41 835 #[oJ q0, oS, oJ q1, oS, oJ q2, oS, oI p3, oI p4, oI p5, oJ mn, oS, oJ mx, oS, oI ng, oI he, oI ee, oI mm, oI cr, oI cc, oR b1, oJ nn, oS, oI ng, oI bs, oI ln, oR b61, oI la, oI so, oI ps, oI dg, oI co, oJ rr, oS, oJ tv, oS, oU, oU, oU, oU, oU] [(.int (1 : Int32))]
                                          refine own_st (fun _ k => XS.goto X144.here hx rfl (pc0 := 835) (pc' := 859) rfl (hb hby at_835) (by decide) (by decide) k) ?_
                                          show own_Go X144 (Q0 Z q0 q1 q2 p3 p4 p5 h0 n0) 2 41 859 #[oJ q0, oS, oJ q1, oS, oJ q2, oS, oI p3, oI p4, oI p5, oJ mn, oS, oJ mx, oS, oI ng, oI he, oI ee, oI mm, oI cr, oI cc, oR b1, oJ nn, oS, oI ng, oI bs, oI ln, oR b61, oI la, oI so, oI ps, oI dg, oI co, oJ rr, oS, oJ tv, oS, oU, oU, oU, oU, oU] [(.int (1 : Int32))]
                                          exact J859 _ (by unfold own_fi; rw [if_pos c821_158, if_neg c826_159, if_pos c831_160])
                                        · skip
                                          refine own_st (fun _ k => XS.ifYes X144.here hx rfl (pc0 := 831) (pc' := 838) rfl (hb hby at_831) rfl ((if0 _ _).trans (feq c831_160).2) (by decide) (by decide) k) ?_
                                          show own_Go X144 (Q0 Z q0 q1 q2 p3 p4 p5 h0 n0) 2 41 838 #[oJ q0, oS, oJ q1, oS, oJ q2, oS, oI p3, oI p4, oI p5, oJ mn, oS, oJ mx, oS, oI ng, oI he, oI ee, oI mm, oI cr, oI cc, oR b1, oJ nn, oS, oI ng, oI bs, oI ln, oR b61, oI la, oI so, oI ps, oI dg, oI co, oJ rr, oS, oJ tv, oS, oU, oU, oU, oU, oU] []
                                          refine own_st (fun _ k => XS.iconst X144.here hx rfl (hb hby at_838) k) ?_
                                          show own_Go X144 (Q0 Z q0 q1 q2 p3 p4 p5 h0 n0) 2 41 839 #[oJ q0, oS, oJ q1, oS, oJ q2, oS, oI p3, oI p4, oI p5, oJ mn, oS, oJ mx, oS, oI ng, oI he, oI ee, oI mm, oI cr, oI cc, oR b1, oJ nn, oS, oI ng, oI bs, oI ln, oR b61, oI la, oI so, oI ps, oI dg, oI co, oJ rr, oS, oJ tv, oS, oU, oU, oU, oU, oU] [(.int (0 : Int32))]
                                          refine own_st (fun _ k => XS.goto X144.here hx rfl (pc0 := 839) (pc' := 859) rfl (hb hby at_839) (by decide) (by decide) k) ?_
                                          show own_Go X144 (Q0 Z q0 q1 q2 p3 p4 p5 h0 n0) 2 41 859 #[oJ q0, oS, oJ q1, oS, oJ q2, oS, oI p3, oI p4, oI p5, oJ mn, oS, oJ mx, oS, oI ng, oI he, oI ee, oI mm, oI cr, oI cc, oR b1, oJ nn, oS, oI ng, oI bs, oI ln, oR b61, oI la, oI so, oI ps, oI dg, oI co, oJ rr, oS, oJ tv, oS, oU, oU, oU, oU, oU] [(.int (0 : Int32))]
                                          exact J859 _ (by unfold own_fi; rw [if_pos c821_158, if_neg c826_159, if_neg c831_160])
                                    · skip
                                      refine own_st (fun _ k => XS.icmpYes X144.here hx rfl (pc0 := 821) (pc' := 842) rfl (hb hby at_821) rfl (feq c821_158).2 (by decide) (by decide) k) ?_
                                      show own_Go X144 (Q0 Z q0 q1 q2 p3 p4 p5 h0 n0) 2 41 842 #[oJ q0, oS, oJ q1, oS, oJ q2, oS, oI p3, oI p4, oI p5, oJ mn, oS, oJ mx, oS, oI ng, oI he, oI ee, oI mm, oI cr, oI cc, oR b1, oJ nn, oS, oI ng, oI bs, oI ln, oR b61, oI la, oI so, oI ps, oI dg, oI co, oJ rr, oS, oJ tv, oS, oU, oU, oU, oU, oU] []
                                      refine own_st (fun _ k => XS.lload X144.here hx rfl (hb hby at_842) rfl k) ?_
                                      show own_Go X144 (Q0 Z q0 q1 q2 p3 p4 p5 h0 n0) 2 41 844 #[oJ q0, oS, oJ q1, oS, oJ q2, oS, oI p3, oI p4, oI p5, oJ mn, oS, oJ mx, oS, oI ng, oI he, oI ee, oI mm, oI cr, oI cc, oR b1, oJ nn, oS, oI ng, oI bs, oI ln, oR b61, oI la, oI so, oI ps, oI dg, oI co, oJ rr, oS, oJ tv, oS, oU, oU, oU, oU, oU] [(.long rr)]
                                      refine own_st (fun t k => X144.ldc2Long hx hown (mvT hZ (hw _ (List.mem_of_getElem? (i := 26) rfl))) (g := (mkF m 844 #[oJ q0, oS, oJ q1, oS, oJ q2, oS, oI p3, oI p4, oI p5, oJ mn, oS, oJ mx, oS, oI ng, oI he, oI ee, oI mm, oI cr, oI cc, oR b1, oJ nn, oS, oI ng, oI bs, oI ln, oR b61, oI la, oI so, oI ps, oI dg, oI co, oJ rr, oS, oJ tv, oS, oU, oU, oU, oU, oU] [(.long rr)])) rfl (hb hby at_844) t k) ?_
                                      show own_Go X144 (Q0 Z q0 q1 q2 p3 p4 p5 h0 n0) 2 41 847 #[oJ q0, oS, oJ q1, oS, oJ q2, oS, oI p3, oI p4, oI p5, oJ mn, oS, oJ mx, oS, oI ng, oI he, oI ee, oI mm, oI cr, oI cc, oR b1, oJ nn, oS, oI ng, oI bs, oI ln, oR b61, oI la, oI so, oI ps, oI dg, oI co, oJ rr, oS, oJ tv, oS, oU, oU, oU, oU, oU] [(.long (-9223372036854775808 : Int64)), (.long rr)]
                                      refine own_st (fun _ k => XS.lload X144.here hx rfl (hb hby at_847) rfl k) ?_
                                      show own_Go X144 (Q0 Z q0 q1 q2 p3 p4 p5 h0 n0) 2 41 849 #[oJ q0, oS, oJ q1, oS, oJ q2, oS, oI p3, oI p4, oI p5, oJ mn, oS, oJ mx, oS, oI ng, oI he, oI ee, oI mm, oI cr, oI cc, oR b1, oJ nn, oS, oI ng, oI bs, oI ln, oR b61, oI la, oI so, oI ps, oI dg, oI co, oJ rr, oS, oJ tv, oS, oU, oU, oU, oU, oU] [(.long tv), (.long (-9223372036854775808 : Int64)), (.long rr)]
                                      refine own_st (fun _ k => XS.ladd X144.here hx rfl (hb hby at_849) rfl k) ?_
                                      show own_Go X144 (Q0 Z q0 q1 q2 p3 p4 p5 h0 n0) 2 41 850 #[oJ q0, oS, oJ q1, oS, oJ q2, oS, oI p3, oI p4, oI p5, oJ mn, oS, oJ mx, oS, oI ng, oI he, oI ee, oI mm, oI cr, oI cc, oR b1, oJ nn, oS, oI ng, oI bs, oI ln, oR b61, oI la, oI so, oI ps, oI dg, oI co, oJ rr, oS, oJ tv, oS, oU, oU, oU, oU, oU] [(.long ((-9223372036854775808 : Int64) + tv)), (.long rr)]
                                      refine own_st (fun _ k => XS.lcmp X144.here hx rfl (hb hby at_850) rfl k) ?_
                                      show own_Go X144 (Q0 Z q0 q1 q2 p3 p4 p5 h0 n0) 2 41 851 #[oJ q0, oS, oJ q1, oS, oJ q2, oS, oI p3, oI p4, oI p5, oJ mn, oS, oJ mx, oS, oI ng, oI he, oI ee, oI mm, oI cr, oI cc, oR b1, oJ nn, oS, oI ng, oI bs, oI ln, oR b61, oI la, oI so, oI ps, oI dg, oI co, oJ rr, oS, oJ tv, oS, oU, oU, oU, oU, oU] [(.int (lcmpW rr ((-9223372036854775808 : Int64) + tv)))]
                                      by_cases c851_161 : rr < ((-9223372036854775808 : Int64) + tv)
                                      · skip
                                        refine own_st (fun _ k => XS.ifYes X144.here hx rfl (pc0 := 851) (pc' := 858) rfl (hb hby at_851) rfl ((if0 _ _).trans (tlt ((lw_lt _ _).mpr c851_161)).1) (by decide) (by decide) k) ?_
                                        show own_Go X144 (Q0 Z q0 q1 q2 p3 p4 p5 h0 n0) 2 41 858 #[oJ q0, oS, oJ q1, oS, oJ q2, oS, oI p3, oI p4, oI p5, oJ mn, oS, oJ mx, oS, oI ng, oI he, oI ee, oI mm, oI cr, oI cc, oR b1, oJ nn, oS, oI ng, oI bs, oI ln, oR b61, oI la, oI so, oI ps, oI dg, oI co, oJ rr, oS, oJ tv, oS, oU, oU, oU, oU, oU] []
                                        refine own_st (fun _ k => XS.iconst X144.here hx rfl (hb hby at_858) k) ?_
                                        show own_Go X144 (Q0 Z q0 q1 q2 p3 p4 p5 h0 n0) 2 41 859 #[oJ q0, oS, oJ q1, oS, oJ q2, oS, oI p3, oI p4, oI p5, oJ mn, oS, oJ mx, oS, oI ng, oI he, oI ee, oI mm, oI cr, oI cc, oR b1, oJ nn, oS, oI ng, oI bs, oI ln, oR b61, oI la, oI so, oI ps, oI dg, oI co, oJ rr, oS, oJ tv, oS, oU, oU, oU, oU, oU] [(.int (0 : Int32))]
                                        exact J859 _ (by unfold own_fi; rw [if_neg c821_158, if_pos c851_161])
                                      · skip
                                        refine own_st (fun _ k => XS.ifNo X144.here hx rfl (hb hby at_851) rfl ((if0 _ _).trans (flt (fun q => c851_161 ((lw_lt _ _).mp q))).1) k) ?_
                                        show own_Go X144 (Q0 Z q0 q1 q2 p3 p4 p5 h0 n0) 2 41 854 #[oJ q0, oS, oJ q1, oS, oJ q2, oS, oI p3, oI p4, oI p5, oJ mn, oS, oJ mx, oS, oI ng, oI he, oI ee, oI mm, oI cr, oI cc, oR b1, oJ nn, oS, oI ng, oI bs, oI ln, oR b61, oI la, oI so, oI ps, oI dg, oI co, oJ rr, oS, oJ tv, oS, oU, oU, oU, oU, oU] []
                                        refine own_st (fun _ k => XS.iconst X144.here hx rfl (hb hby at_854) k) ?_
                                        show own_Go X144 (Q0 Z q0 q1 q2 p3 p4 p5 h0 n0) 2 41 855 #[oJ q0, oS, oJ q1, oS, oJ q2, oS, oI p3, oI p4, oI p5, oJ mn, oS, oJ mx, oS, oI ng, oI he, oI ee, oI mm, oI cr, oI cc, oR b1, oJ nn, oS, oI ng, oI bs, oI ln, oR b61, oI la, oI so, oI ps, oI dg, oI co, oJ rr, oS, oJ tv, oS, oU, oU, oU, oU, oU] [(.int (1 : Int32))]
                                        refine own_st (fun _ k => XS.goto X144.here hx rfl (pc0 := 855) (pc' := 859) rfl (hb hby at_855) (by decide) (by decide) k) ?_
                                        show own_Go X144 (Q0 Z q0 q1 q2 p3 p4 p5 h0 n0) 2 41 859 #[oJ q0, oS, oJ q1, oS, oJ q2, oS, oI p3, oI p4, oI p5, oJ mn, oS, oJ mx, oS, oI ng, oI he, oI ee, oI mm, oI cr, oI cc, oR b1, oJ nn, oS, oI ng, oI bs, oI ln, oR b61, oI la, oI so, oI ps, oI dg, oI co, oJ rr, oS, oJ tv, oS, oU, oU, oU, oU, oU] [(.int (1 : Int32))]
                                        exact J859 _ (by unfold own_fi; rw [if_neg c821_158, if_neg c851_161])
                                  refine own_st (fun _ k => XS.iload X144.here hx rfl (hb hby at_786) rfl k) ?_
                                  show own_Go X144 (Q0 Z q0 q1 q2 p3 p4 p5 h0 n0) 2 41 788 #[oJ q0, oS, oJ q1, oS, oJ q2, oS, oI p3, oI p4, oI p5, oJ mn, oS, oJ mx, oS, oI ng, oI he, oI ee, oI mm, oI cr, oI cc, oR b1, oJ nn, oS, oI ng, oI bs, oI ln, oR b61, oI la, oI so, oI ps, oI dg, oI co, oJ rr, oS, oU, oU, oU, oU, oU, oU, oU] [(.int mm)]
                                  refine own_st (fun _ k => XS.bipush X144.here hx rfl (hb hby at_788) k) ?_
                                  show own_Go X144 (Q0 Z q0 q1 q2 p3 p4 p5 h0 n0) 2 41 790 #[oJ q0, oS, oJ q1, oS, oJ q2, oS, oI p3, oI p4, oI p5, oJ mn, oS, oJ mx, oS, oI ng, oI he, oI ee, oI mm, oI cr, oI cc, oR b1, oJ nn, oS, oI ng, oI bs, oI ln, oR b61, oI la, oI so, oI ps, oI dg, oI co, oJ rr, oS, oU, oU, oU, oU, oU, oU, oU] [(.int (19 : Int32)), (.int mm)]
                                  by_cases c790_162 : mm = (19 : Int32)
                                  · skip
                                    refine own_st (fun _ k => XS.icmpNo X144.here hx rfl (hb hby at_790) rfl (teq c790_162).2 k) ?_
                                    show own_Go X144 (Q0 Z q0 q1 q2 p3 p4 p5 h0 n0) 2 41 793 #[oJ q0, oS, oJ q1, oS, oJ q2, oS, oI p3, oI p4, oI p5, oJ mn, oS, oJ mx, oS, oI ng, oI he, oI ee, oI mm, oI cr, oI cc, oR b1, oJ nn, oS, oI ng, oI bs, oI ln, oR b61, oI la, oI so, oI ps, oI dg, oI co, oJ rr, oS, oU, oU, oU, oU, oU, oU, oU] []
                                    refine own_st (fun _ k => XS.lconst X144.here hx rfl (hb hby at_793) k) ?_
                                    show own_Go X144 (Q0 Z q0 q1 q2 p3 p4 p5 h0 n0) 2 41 794 #[oJ q0, oS, oJ q1, oS, oJ q2, oS, oI p3, oI p4, oI p5, oJ mn, oS, oJ mx, oS, oI ng, oI he, oI ee, oI mm, oI cr, oI cc, oR b1, oJ nn, oS, oI ng, oI bs, oI ln, oR b61, oI la, oI so, oI ps, oI dg, oI co, oJ rr, oS, oU, oU, oU, oU, oU, oU, oU] [(.long (0 : Int64))]
                                    refine own_st (fun _ k => XS.goto X144.here hx rfl (pc0 := 794) (pc' := 815) rfl (hb hby at_794) (by decide) (by decide) k) ?_
                                    show own_Go X144 (Q0 Z q0 q1 q2 p3 p4 p5 h0 n0) 2 41 815 #[oJ q0, oS, oJ q1, oS, oJ q2, oS, oI p3, oI p4, oI p5, oJ mn, oS, oJ mx, oS, oI ng, oI he, oI ee, oI mm, oI cr, oI cc, oR b1, oJ nn, oS, oI ng, oI bs, oI ln, oR b61, oI la, oI so, oI ps, oI dg, oI co, oJ rr, oS, oU, oU, oU, oU, oU, oU, oU] [(.long (0 : Int64))]
                                    exact J815 _ (by unfold own_tv; rw [if_pos c790_162])
                                  · skip
                                    refine own_st (fun _ k => XS.icmpYes X144.here hx rfl (pc0 := 790) (pc' := 797) rfl (hb hby at_790) rfl (feq c790_162).2 (by decide) (by decide) k) ?_
                                    show own_Go X144 (Q0 Z q0 q1 q2 p3 p4 p5 h0 n0) 2 41 797 #[oJ q0, oS, oJ q1, oS, oJ q2, oS, oI p3, oI p4, oI p5, oJ mn, oS, oJ mx, oS, oI ng, oI he, oI ee, oI mm, oI cr, oI cc, oR b1, oJ nn, oS, oI ng, oI bs, oI ln, oR b61, oI la, oI so, oI ps, oI dg, oI co, oJ rr, oS, oU, oU, oU, oU, oU, oU, oU] []
                                    refine own_st (fun _ k => XS.iload X144.here hx rfl (hb hby at_797) rfl k) ?_
                                    show own_Go X144 (Q0 Z q0 q1 q2 p3 p4 p5 h0 n0) 2 41 799 #[oJ q0, oS, oJ q1, oS, oJ q2, oS, oI p3, oI p4, oI p5, oJ mn, oS, oJ mx, oS, oI ng, oI he, oI ee, oI mm, oI cr, oI cc, oR b1, oJ nn, oS, oI ng, oI bs, oI ln, oR b61, oI la, oI so, oI ps, oI dg, oI co, oJ rr, oS, oU, oU, oU, oU, oU, oU, oU] [(.int he)]
                                    by_cases c799_163 : he = (0 : Int32)
                                    · skip
                                      refine own_st (fun _ k => XS.ifYes X144.here hx rfl (pc0 := 799) (pc' := 807) rfl (hb hby at_799) rfl ((if0 _ _).trans (teq c799_163).1) (by decide) (by decide) k) ?_
                                      show own_Go X144 (Q0 Z q0 q1 q2 p3 p4 p5 h0 n0) 2 41 807 #[oJ q0, oS, oJ q1, oS, oJ q2, oS, oI p3, oI p4, oI p5, oJ mn, oS, oJ mx, oS, oI ng, oI he, oI ee, oI mm, oI cr, oI cc, oR b1, oJ nn, oS, oI ng, oI bs, oI ln, oR b61, oI la, oI so, oI ps, oI dg, oI co, oJ rr, oS, oU, oU, oU, oU, oU, oU, oU] []
                                      refine own_st (fun _ k => XS.iconst X144.here hx rfl (hb hby at_807) k) ?_
                                      show own_Go X144 (Q0 Z q0 q1 q2 p3 p4 p5 h0 n0) 2 41 808 #[oJ q0, oS, oJ q1, oS, oJ q2, oS, oI p3, oI p4, oI p5, oJ mn, oS, oJ mx, oS, oI ng, oI he, oI ee, oI mm, oI cr, oI cc, oR b1, oJ nn, oS, oI ng, oI bs, oI ln, oR b61, oI la, oI so, oI ps, oI dg, oI co, oJ rr, oS, oU, oU, oU, oU, oU, oU, oU] [(.int (0 : Int32))]
                                      refine own_st (fun _ k => XS.i2l X144.here hx rfl (hb hby at_808) rfl k) ?_
                                      show own_Go X144 (Q0 Z q0 q1 q2 p3 p4 p5 h0 n0) 2 41 809 #[oJ q0, oS, oJ q1, oS, oJ q2, oS, oI p3, oI p4, oI p5, oJ mn, oS, oJ mx, oS, oI ng, oI he, oI ee, oI mm, oI cr, oI cc, oR b1, oJ nn, oS, oI ng, oI bs, oI ln, oR b61, oI la, oI so, oI ps, oI dg, oI co, oJ rr, oS, oU, oU, oU, oU, oU, oU, oU] [(.long ((0 : Int32).toInt64))]
                                      refine own_st (fun _ k => XS.aload X144.here hx rfl (hb hby at_809) rfl rfl k) ?_
                                      show own_Go X144 (Q0 Z q0 q1 q2 p3 p4 p5 h0 n0) 2 41 811 #[oJ q0, oS, oJ q1, oS, oJ q2, oS, oI p3, oI p4, oI p5, oJ mn, oS, oJ mx, oS, oI ng, oI he, oI ee, oI mm, oI cr, oI cc, oR b1, oJ nn, oS, oI ng, oI bs, oI ln, oR b61, oI la, oI so, oI ps, oI dg, oI co, oJ rr, oS, oU, oU, oU, oU, oU, oU, oU] [(.ref b1), (.long ((0 : Int32).toInt64))]
                                      refine own_st (fun _ k => XS.iload X144.here hx rfl (hb hby at_811) rfl k) ?_
                                      show own_Go X144 (Q0 Z q0 q1 q2 p3 p4 p5 h0 n0) 2 41 813 #[oJ q0, oS, oJ q1, oS, oJ q2, oS, oI p3, oI p4, oI p5, oJ mn, oS, oJ mx, oS, oI ng, oI he, oI ee, oI mm, oI cr, oI cc, oR b1, oJ nn, oS, oI ng, oI bs, oI ln, oR b61, oI la, oI so, oI ps, oI dg, oI co, oJ rr, oS, oU, oU, oU, oU, oU, oU, oU] [(.int mm), (.ref b1), (.long ((0 : Int32).toInt64))]
                                      refine own_st (fun _ k => own_ldJ X144 hx hZ e144 f144_1 (j := mm) (own_mB hmB c790_162) (v := (.long (own_p10 mm.toInt.toNat))) (own_getp hmB c790_162) (g := (mkF m 813 #[oJ q0, oS, oJ q1, oS, oJ q2, oS, oI p3, oI p4, oI p5, oJ mn, oS, oJ mx, oS, oI ng, oI he, oI ee, oI mm, oI cr, oI cc, oR b1, oJ nn, oS, oI ng, oI bs, oI ln, oR b61, oI la, oI so, oI ps, oI dg, oI co, oJ rr, oS, oU, oU, oU, oU, oU, oU, oU] [(.int mm), (.ref b1), (.long ((0 : Int32).toInt64))])) rfl rfl (hb hby at_813) _ k) ?_
                                      show own_Go X144 (Q0 Z q0 q1 q2 p3 p4 p5 h0 n0) 2 41 814 #[oJ q0, oS, oJ q1, oS, oJ q2, oS, oI p3, oI p4, oI p5, oJ mn, oS, oJ mx, oS, oI ng, oI he, oI ee, oI mm, oI cr, oI cc, oR b1, oJ nn, oS, oI ng, oI bs, oI ln, oR b61, oI la, oI so, oI ps, oI dg, oI co, oJ rr, oS, oU, oU, oU, oU, oU, oU, oU] [(.long (own_p10 mm.toInt.toNat)), (.long ((0 : Int32).toInt64))]
                                      refine own_st (fun _ k => XS.lmul X144.here hx rfl (hb hby at_814) rfl k) ?_
                                      show own_Go X144 (Q0 Z q0 q1 q2 p3 p4 p5 h0 n0) 2 41 815 #[oJ q0, oS, oJ q1, oS, oJ q2, oS, oI p3, oI p4, oI p5, oJ mn, oS, oJ mx, oS, oI ng, oI he, oI ee, oI mm, oI cr, oI cc, oR b1, oJ nn, oS, oI ng, oI bs, oI ln, oR b61, oI la, oI so, oI ps, oI dg, oI co, oJ rr, oS, oU, oU, oU, oU, oU, oU, oU] [(.long (((0 : Int32).toInt64) * (own_p10 mm.toInt.toNat)))]
                                      exact J815 _ (by unfold own_tv; rw [if_neg c790_162, if_pos c799_163])
                                    · skip
                                      refine own_st (fun _ k => XS.ifNo X144.here hx rfl (hb hby at_799) rfl ((if0 _ _).trans (feq c799_163).1) k) ?_
                                      show own_Go X144 (Q0 Z q0 q1 q2 p3 p4 p5 h0 n0) 2 41 802 #[oJ q0, oS, oJ q1, oS, oJ q2, oS, oI p3, oI p4, oI p5, oJ mn, oS, oJ mx, oS, oI ng, oI he, oI ee, oI mm, oI cr, oI cc, oR b1, oJ nn, oS, oI ng, oI bs, oI ln, oR b61, oI la, oI so, oI ps, oI dg, oI co, oJ rr, oS, oU, oU, oU, oU, oU, oU, oU] []
                                      refine own_st (fun _ k => XS.iload X144.here hx rfl (hb hby at_802) rfl k) ?_
                                      show own_Go X144 (Q0 Z q0 q1 q2 p3 p4 p5 h0 n0) 2 41 804 #[oJ q0, oS, oJ q1, oS, oJ q2, oS, oI p3, oI p4, oI p5, oJ mn, oS, oJ mx, oS, oI ng, oI he, oI ee, oI mm, oI cr, oI cc, oR b1, oJ nn, oS, oI ng, oI bs, oI ln, oR b61, oI la, oI so, oI ps, oI dg, oI co, oJ rr, oS, oU, oU, oU, oU, oU, oU, oU] [(.int ee)]
                                      refine own_st (fun _ k => XS.goto X144.here hx rfl (pc0 := 804) (pc' := 808) rfl (hb hby at_804) (by decide) (by decide) k) ?_
                                      show own_Go X144 (Q0 Z q0 q1 q2 p3 p4 p5 h0 n0) 2 41 808 #[oJ q0, oS, oJ q1, oS, oJ q2, oS, oI p3, oI p4, oI p5, oJ mn, oS, oJ mx, oS, oI ng, oI he, oI ee, oI mm, oI cr, oI cc, oR b1, oJ nn, oS, oI ng, oI bs, oI ln, oR b61, oI la, oI so, oI ps, oI dg, oI co, oJ rr, oS, oU, oU, oU, oU, oU, oU, oU] [(.int ee)]
                                      refine own_st (fun _ k => XS.i2l X144.here hx rfl (hb hby at_808) rfl k) ?_
                                      show own_Go X144 (Q0 Z q0 q1 q2 p3 p4 p5 h0 n0) 2 41 809 #[oJ q0, oS, oJ q1, oS, oJ q2, oS, oI p3, oI p4, oI p5, oJ mn, oS, oJ mx, oS, oI ng, oI he, oI ee, oI mm, oI cr, oI cc, oR b1, oJ nn, oS, oI ng, oI bs, oI ln, oR b61, oI la, oI so, oI ps, oI dg, oI co, oJ rr, oS, oU, oU, oU, oU, oU, oU, oU] [(.long (ee.toInt64))]
                                      refine own_st (fun _ k => XS.aload X144.here hx rfl (hb hby at_809) rfl rfl k) ?_
                                      show own_Go X144 (Q0 Z q0 q1 q2 p3 p4 p5 h0 n0) 2 41 811 #[oJ q0, oS, oJ q1, oS, oJ q2, oS, oI p3, oI p4, oI p5, oJ mn, oS, oJ mx, oS, oI ng, oI he, oI ee, oI mm, oI cr, oI cc, oR b1, oJ nn, oS, oI ng, oI bs, oI ln, oR b61, oI la, oI so, oI ps, oI dg, oI co, oJ rr, oS, oU, oU, oU, oU, oU, oU, oU] [(.ref b1), (.long (ee.toInt64))]
                                      refine own_st (fun _ k => XS.iload X144.here hx rfl (hb hby at_811) rfl k) ?_
                                      show own_Go X144 (Q0 Z q0 q1 q2 p3 p4 p5 h0 n0) 2 41 813 #[oJ q0, oS, oJ q1, oS, oJ q2, oS, oI p3, oI p4, oI p5, oJ mn, oS, oJ mx, oS, oI ng, oI he, oI ee, oI mm, oI cr, oI cc, oR b1, oJ nn, oS, oI ng, oI bs, oI ln, oR b61, oI la, oI so, oI ps, oI dg, oI co, oJ rr, oS, oU, oU, oU, oU, oU, oU, oU] [(.int mm), (.ref b1), (.long (ee.toInt64))]
                                      refine own_st (fun _ k => own_ldJ X144 hx hZ e144 f144_1 (j := mm) (own_mB hmB c790_162) (v := (.long (own_p10 mm.toInt.toNat))) (own_getp hmB c790_162) (g := (mkF m 813 #[oJ q0, oS, oJ q1, oS, oJ q2, oS, oI p3, oI p4, oI p5, oJ mn, oS, oJ mx, oS, oI ng, oI he, oI ee, oI mm, oI cr, oI cc, oR b1, oJ nn, oS, oI ng, oI bs, oI ln, oR b61, oI la, oI so, oI ps, oI dg, oI co, oJ rr, oS, oU, oU, oU, oU, oU, oU, oU] [(.int mm), (.ref b1), (.long (ee.toInt64))])) rfl rfl (hb hby at_813) _ k) ?_
                                      show own_Go X144 (Q0 Z q0 q1 q2 p3 p4 p5 h0 n0) 2 41 814 #[oJ q0, oS, oJ q1, oS, oJ q2, oS, oI p3, oI p4, oI p5, oJ mn, oS, oJ mx, oS, oI ng, oI he, oI ee, oI mm, oI cr, oI cc, oR b1, oJ nn, oS, oI ng, oI bs, oI ln, oR b61, oI la, oI so, oI ps, oI dg, oI co, oJ rr, oS, oU, oU, oU, oU, oU, oU, oU] [(.long (own_p10 mm.toInt.toNat)), (.long (ee.toInt64))]
                                      refine own_st (fun _ k => XS.lmul X144.here hx rfl (hb hby at_814) rfl k) ?_
                                      show own_Go X144 (Q0 Z q0 q1 q2 p3 p4 p5 h0 n0) 2 41 815 #[oJ q0, oS, oJ q1, oS, oJ q2, oS, oI p3, oI p4, oI p5, oJ mn, oS, oJ mx, oS, oI ng, oI he, oI ee, oI mm, oI cr, oI cc, oR b1, oJ nn, oS, oI ng, oI bs, oI ln, oR b61, oI la, oI so, oI ps, oI dg, oI co, oJ rr, oS, oU, oU, oU, oU, oU, oU, oU] [(.long ((ee.toInt64) * (own_p10 mm.toInt.toNat)))]
                                      exact J815 _ (by unfold own_tv; rw [if_neg c790_162, if_neg c799_163])
                                refine own_st (fun _ k => XS.iload X144.here hx rfl (hb hby at_764) rfl k) ?_
                                show own_Go X144 (Q0 Z q0 q1 q2 p3 p4 p5 h0 n0) 2 41 766 #[oJ q0, oS, oJ q1, oS, oJ q2, oS, oI p3, oI p4, oI p5, oJ mn, oS, oJ mx, oS, oI ng, oI he, oI ee, oI mm, oI cr, oI cc, oR b1, oJ nn, oS, oI ng, oI bs, oI ln, oR b61, oI la, oI so, oI ps, oI dg, oI co, oU, oU, oU, oU, oU, oU, oU, oU, oU] [(.int mm)]
                                refine own_st (fun _ k => XS.bipush X144.here hx rfl (hb hby at_766) k) ?_
                                show own_Go X144 (Q0 Z q0 q1 q2 p3 p4 p5 h0 n0) 2 41 768 #[oJ q0, oS, oJ q1, oS, oJ q2, oS, oI p3, oI p4, oI p5, oJ mn, oS, oJ mx, oS, oI ng, oI he, oI ee, oI mm, oI cr, oI cc, oR b1, oJ nn, oS, oI ng, oI bs, oI ln, oR b61, oI la, oI so, oI ps, oI dg, oI co, oU, oU, oU, oU, oU, oU, oU, oU, oU] [(.int (19 : Int32)), (.int mm)]
                                by_cases c768_164 : mm = (19 : Int32)
                                · skip
                                  refine own_st (fun _ k => XS.icmpNo X144.here hx rfl (hb hby at_768) rfl (teq c768_164).2 k) ?_
                                  show own_Go X144 (Q0 Z q0 q1 q2 p3 p4 p5 h0 n0) 2 41 771 #[oJ q0, oS, oJ q1, oS, oJ q2, oS, oI p3, oI p4, oI p5, oJ mn, oS, oJ mx, oS, oI ng, oI he, oI ee, oI mm, oI cr, oI cc, oR b1, oJ nn, oS, oI ng, oI bs, oI ln, oR b61, oI la, oI so, oI ps, oI dg, oI co, oU, oU, oU, oU, oU, oU, oU, oU, oU] []
                                  refine own_st (fun _ k => XS.lload X144.here hx rfl (hb hby at_771) rfl k) ?_
                                  show own_Go X144 (Q0 Z q0 q1 q2 p3 p4 p5 h0 n0) 2 41 773 #[oJ q0, oS, oJ q1, oS, oJ q2, oS, oI p3, oI p4, oI p5, oJ mn, oS, oJ mx, oS, oI ng, oI he, oI ee, oI mm, oI cr, oI cc, oR b1, oJ nn, oS, oI ng, oI bs, oI ln, oR b61, oI la, oI so, oI ps, oI dg, oI co, oU, oU, oU, oU, oU, oU, oU, oU, oU] [(.long nn)]
                                  refine own_st (fun _ k => XS.goto X144.here hx rfl (pc0 := 773) (pc' := 784) rfl (hb hby at_773) (by decide) (by decide) k) ?_
                                  show own_Go X144 (Q0 Z q0 q1 q2 p3 p4 p5 h0 n0) 2 41 784 #[oJ q0, oS, oJ q1, oS, oJ q2, oS, oI p3, oI p4, oI p5, oJ mn, oS, oJ mx, oS, oI ng, oI he, oI ee, oI mm, oI cr, oI cc, oR b1, oJ nn, oS, oI ng, oI bs, oI ln, oR b61, oI la, oI so, oI ps, oI dg, oI co, oU, oU, oU, oU, oU, oU, oU, oU, oU] [(.long nn)]
                                  exact J784 _ (by unfold own_rr; rw [if_pos c768_164])
                                · skip
                                  refine own_st (fun _ k => XS.icmpYes X144.here hx rfl (pc0 := 768) (pc' := 776) rfl (hb hby at_768) rfl (feq c768_164).2 (by decide) (by decide) k) ?_
                                  show own_Go X144 (Q0 Z q0 q1 q2 p3 p4 p5 h0 n0) 2 41 776 #[oJ q0, oS, oJ q1, oS, oJ q2, oS, oI p3, oI p4, oI p5, oJ mn, oS, oJ mx, oS, oI ng, oI he, oI ee, oI mm, oI cr, oI cc, oR b1, oJ nn, oS, oI ng, oI bs, oI ln, oR b61, oI la, oI so, oI ps, oI dg, oI co, oU, oU, oU, oU, oU, oU, oU, oU, oU] []
                                  refine own_st (fun _ k => XS.lload X144.here hx rfl (hb hby at_776) rfl k) ?_
                                  show own_Go X144 (Q0 Z q0 q1 q2 p3 p4 p5 h0 n0) 2 41 778 #[oJ q0, oS, oJ q1, oS, oJ q2, oS, oI p3, oI p4, oI p5, oJ mn, oS, oJ mx, oS, oI ng, oI he, oI ee, oI mm, oI cr, oI cc, oR b1, oJ nn, oS, oI ng, oI bs, oI ln, oR b61, oI la, oI so, oI ps, oI dg, oI co, oU, oU, oU, oU, oU, oU, oU, oU, oU] [(.long nn)]
                                  refine own_st (fun _ k => XS.aload X144.here hx rfl (hb hby at_778) rfl rfl k) ?_
                                  show own_Go X144 (Q0 Z q0 q1 q2 p3 p4 p5 h0 n0) 2 41 780 #[oJ q0, oS, oJ q1, oS, oJ q2, oS, oI p3, oI p4, oI p5, oJ mn, oS, oJ mx, oS, oI ng, oI he, oI ee, oI mm, oI cr, oI cc, oR b1, oJ nn, oS, oI ng, oI bs, oI ln, oR b61, oI la, oI so, oI ps, oI dg, oI co, oU, oU, oU, oU, oU, oU, oU, oU, oU] [(.ref b1), (.long nn)]
                                  refine own_st (fun _ k => XS.iload X144.here hx rfl (hb hby at_780) rfl k) ?_
                                  show own_Go X144 (Q0 Z q0 q1 q2 p3 p4 p5 h0 n0) 2 41 782 #[oJ q0, oS, oJ q1, oS, oJ q2, oS, oI p3, oI p4, oI p5, oJ mn, oS, oJ mx, oS, oI ng, oI he, oI ee, oI mm, oI cr, oI cc, oR b1, oJ nn, oS, oI ng, oI bs, oI ln, oR b61, oI la, oI so, oI ps, oI dg, oI co, oU, oU, oU, oU, oU, oU, oU, oU, oU] [(.int mm), (.ref b1), (.long nn)]
                                  refine own_st (fun _ k => own_ldJ X144 hx hZ e144 f144_1 (j := mm) (own_mB hmB c768_164) (v := (.long (own_p10 mm.toInt.toNat))) (own_getp hmB c768_164) (g := (mkF m 782 #[oJ q0, oS, oJ q1, oS, oJ q2, oS, oI p3, oI p4, oI p5, oJ mn, oS, oJ mx, oS, oI ng, oI he, oI ee, oI mm, oI cr, oI cc, oR b1, oJ nn, oS, oI ng, oI bs, oI ln, oR b61, oI la, oI so, oI ps, oI dg, oI co, oU, oU, oU, oU, oU, oU, oU, oU, oU] [(.int mm), (.ref b1), (.long nn)])) rfl rfl (hb hby at_782) _ k) ?_
                                  show own_Go X144 (Q0 Z q0 q1 q2 p3 p4 p5 h0 n0) 2 41 783 #[oJ q0, oS, oJ q1, oS, oJ q2, oS, oI p3, oI p4, oI p5, oJ mn, oS, oJ mx, oS, oI ng, oI he, oI ee, oI mm, oI cr, oI cc, oR b1, oJ nn, oS, oI ng, oI bs, oI ln, oR b61, oI la, oI so, oI ps, oI dg, oI co, oU, oU, oU, oU, oU, oU, oU, oU, oU] [(.long (own_p10 mm.toInt.toNat)), (.long nn)]
                                  refine own_st (fun _ k => own_lrem X144 hx rfl (hb hby at_783) rfl (own_p10nz hmB c768_164) k) ?_
                                  show own_Go X144 (Q0 Z q0 q1 q2 p3 p4 p5 h0 n0) 2 41 784 #[oJ q0, oS, oJ q1, oS, oJ q2, oS, oI p3, oI p4, oI p5, oJ mn, oS, oJ mx, oS, oI ng, oI he, oI ee, oI mm, oI cr, oI cc, oR b1, oJ nn, oS, oI ng, oI bs, oI ln, oR b61, oI la, oI so, oI ps, oI dg, oI co, oU, oU, oU, oU, oU, oU, oU, oU, oU] [(.long (nn % (own_p10 mm.toInt.toNat)))]
                                  exact J784 _ (by unfold own_rr; rw [if_neg c768_164])
                              refine own_st (fun _ k => XS.iload X140.here hx rfl (hb hby at_752) rfl k) ?_
                              show own_Go X140 (Q0 Z q0 q1 q2 p3 p4 p5 h0 n0) 2 41 754 #[oJ q0, oS, oJ q1, oS, oJ q2, oS, oI p3, oI p4, oI p5, oJ mn, oS, oJ mx, oS, oI ng, oI he, oI ee, oI mm, oI cr, oI cc, oR b1, oJ nn, oS, oI ng, oI bs, oI ln, oR b61, oI la, oI so, oI ps, oI dg, oI co, oU, oU, oU, oU, oU, oU, oU, oU, oU] [(.int co)]
                              by_cases c754_165 : co = (0 : Int32)
                              · skip
                                refine own_st (fun _ k => XS.ifYes X140.here hx rfl (pc0 := 754) (pc' := 764) rfl (hb hby at_754) rfl ((if0 _ _).trans (teq c754_165).1) (by decide) (by decide) k) ?_
                                show own_Go X140 (Q0 Z q0 q1 q2 p3 p4 p5 h0 n0) 2 41 764 #[oJ q0, oS, oJ q1, oS, oJ q2, oS, oI p3, oI p4, oI p5, oJ mn, oS, oJ mx, oS, oI ng, oI he, oI ee, oI mm, oI cr, oI cc, oR b1, oJ nn, oS, oI ng, oI bs, oI ln, oR b61, oI la, oI so, oI ps, oI dg, oI co, oU, oU, oU, oU, oU, oU, oU, oU, oU] []
                                exact J764 _ (by unfold own_w3; rw [if_pos c754_165] <;> rfl) X140 (Eq.refl T140.heap) N_141 Z_143 V140 f_142
                              · skip
                                refine own_st (fun _ k => XS.ifNo X140.here hx rfl (hb hby at_754) rfl ((if0 _ _).trans (feq c754_165).1) k) ?_
                                show own_Go X140 (Q0 Z q0 q1 q2 p3 p4 p5 h0 n0) 2 41 757 #[oJ q0, oS, oJ q1, oS, oJ q2, oS, oI p3, oI p4, oI p5, oJ mn, oS, oJ mx, oS, oI ng, oI he, oI ee, oI mm, oI cr, oI cc, oR b1, oJ nn, oS, oI ng, oI bs, oI ln, oR b61, oI la, oI so, oI ps, oI dg, oI co, oU, oU, oU, oU, oU, oU, oU, oU, oU] []
                                refine own_st (fun _ k => XS.aload X140.here hx rfl (hb hby at_757) rfl rfl k) ?_
                                show own_Go X140 (Q0 Z q0 q1 q2 p3 p4 p5 h0 n0) 2 41 759 #[oJ q0, oS, oJ q1, oS, oJ q2, oS, oI p3, oI p4, oI p5, oJ mn, oS, oJ mx, oS, oI ng, oI he, oI ee, oI mm, oI cr, oI cc, oR b1, oJ nn, oS, oI ng, oI bs, oI ln, oR b61, oI la, oI so, oI ps, oI dg, oI co, oU, oU, oU, oU, oU, oU, oU, oU, oU] [(.ref b61)]
                                refine own_st (fun _ k => XS.iload X140.here hx rfl (hb hby at_759) rfl k) ?_
                                show own_Go X140 (Q0 Z q0 q1 q2 p3 p4 p5 h0 n0) 2 41 761 #[oJ q0, oS, oJ q1, oS, oJ q2, oS, oI p3, oI p4, oI p5, oJ mn, oS, oJ mx, oS, oI ng, oI he, oI ee, oI mm, oI cr, oI cc, oR b1, oJ nn, oS, oI ng, oI bs, oI ln, oR b61, oI la, oI so, oI ps, oI dg, oI co, oU, oU, oU, oU, oU, oU, oU, oU, oU] [(.int ps), (.ref b61)]
                                refine own_st (fun _ k => XS.iload X140.here hx rfl (hb hby at_761) rfl k) ?_
                                show own_Go X140 (Q0 Z q0 q1 q2 p3 p4 p5 h0 n0) 2 41 763 #[oJ q0, oS, oJ q1, oS, oJ q2, oS, oI p3, oI p4, oI p5, oJ mn, oS, oJ mx, oS, oI ng, oI he, oI ee, oI mm, oI cr, oI cc, oR b1, oJ nn, oS, oI ng, oI bs, oI ln, oR b61, oI la, oI so, oI ps, oI dg, oI co, oU, oU, oU, oU, oU, oU, oU, oU, oU] [(.int cc), (.int ps), (.ref b61)]
                                have hcf := own_cof (by rw [← hco]; exact c754_165)
                                have hpB := hps hcf.1
                                obtain ⟨T166, h166, X166, e166, W166, V166, st166⟩ := own_stB X140 hx hZ (Eq.refl T140.heap) V140 (j := ps) (own_in22 (by omega) (by omega)) (by rw [own_len22 (own_l1 ng he ee) 19]; exact own_nn (by omega) (by omega)) (g := (mkF m 763 #[oJ q0, oS, oJ q1, oS, oJ q2, oS, oI p3, oI p4, oI p5, oJ mn, oS, oJ mx, oS, oI ng, oI he, oI ee, oI mm, oI cr, oI cc, oR b1, oJ nn, oS, oI ng, oI bs, oI ln, oR b61, oI la, oI so, oI ps, oI dg, oI co, oU, oU, oU, oU, oU, oU, oU, oU, oU] [(.int cc), (.int ps), (.ref b61)])) rfl rfl (hb hby at_763)
                                refine own_st st166 ?_
                                have f_167 := f_142.other W166 ne_62
                                have Z_168 := Nat.le_trans Z_143 (Nat.le_of_eq W166.size.symm)
                                have N_169 := Fr.snoc X166 N_141 G_63
                                show own_Go X166 (Q0 Z q0 q1 q2 p3 p4 p5 h0 n0) 2 41 764 #[oJ q0, oS, oJ q1, oS, oJ q2, oS, oI p3, oI p4, oI p5, oJ mn, oS, oJ mx, oS, oI ng, oI he, oI ee, oI mm, oI cr, oI cc, oR b1, oJ nn, oS, oI ng, oI bs, oI ln, oR b61, oI la, oI so, oI ps, oI dg, oI co, oU, oU, oU, oU, oU, oU, oU, oU, oU] []
                                exact J764 _ (by unfold own_w3; rw [if_neg c754_165] <;> rfl) X166 e166 N_169 Z_168 V166 f_167
                            refine own_st (fun _ k => XS.iload X140.here hx rfl (hb hby at_718) rfl k) ?_
                            show own_Go X140 (Q0 Z q0 q1 q2 p3 p4 p5 h0 n0) 2 41 720 #[oJ q0, oS, oJ q1, oS, oJ q2, oS, oI p3, oI p4, oI p5, oJ mn, oS, oJ mx, oS, oI ng, oI he, oI ee, oI mm, oI cr, oI cc, oR b1, oJ nn, oS, oI ng, oI bs, oI ln, oR b61, oI la, oI so, oI ps, oI dg, oU, oU, oU, oU, oU, oU, oU, oU, oU, oU] [(.int cr)]
                            by_cases c720_170 : cr = (0 : Int32)
                            · skip
                              refine own_st (fun _ k => XS.ifYes X140.here hx rfl (pc0 := 720) (pc' := 749) rfl (hb hby at_720) rfl ((if0 _ _).trans (teq c720_170).1) (by decide) (by decide) k) ?_
                              show own_Go X140 (Q0 Z q0 q1 q2 p3 p4 p5 h0 n0) 2 41 749 #[oJ q0, oS, oJ q1, oS, oJ q2, oS, oI p3, oI p4, oI p5, oJ mn, oS, oJ mx, oS, oI ng, oI he, oI ee, oI mm, oI cr, oI cc, oR b1, oJ nn, oS, oI ng, oI bs, oI ln, oR b61, oI la, oI so, oI ps, oI dg, oU, oU, oU, oU, oU, oU, oU, oU, oU, oU] []
                              refine own_st (fun _ k => XS.iconst X140.here hx rfl (hb hby at_749) k) ?_
                              show own_Go X140 (Q0 Z q0 q1 q2 p3 p4 p5 h0 n0) 2 41 750 #[oJ q0, oS, oJ q1, oS, oJ q2, oS, oI p3, oI p4, oI p5, oJ mn, oS, oJ mx, oS, oI ng, oI he, oI ee, oI mm, oI cr, oI cc, oR b1, oJ nn, oS, oI ng, oI bs, oI ln, oR b61, oI la, oI so, oI ps, oI dg, oU, oU, oU, oU, oU, oU, oU, oU, oU, oU] [(.int (0 : Int32))]
                              exact J750 _ (by unfold own_co; rw [if_pos c720_170])
                            · skip
                              refine own_st (fun _ k => XS.ifNo X140.here hx rfl (hb hby at_720) rfl ((if0 _ _).trans (feq c720_170).1) k) ?_
                              show own_Go X140 (Q0 Z q0 q1 q2 p3 p4 p5 h0 n0) 2 41 723 #[oJ q0, oS, oJ q1, oS, oJ q2, oS, oI p3, oI p4, oI p5, oJ mn, oS, oJ mx, oS, oI ng, oI he, oI ee, oI mm, oI cr, oI cc, oR b1, oJ nn, oS, oI ng, oI bs, oI ln, oR b61, oI la, oI so, oI ps, oI dg, oU, oU, oU, oU, oU, oU, oU, oU, oU, oU] []
                              refine own_st (fun _ k => XS.iload X140.here hx rfl (hb hby at_723) rfl k) ?_
                              show own_Go X140 (Q0 Z q0 q1 q2 p3 p4 p5 h0 n0) 2 41 725 #[oJ q0, oS, oJ q1, oS, oJ q2, oS, oI p3, oI p4, oI p5, oJ mn, oS, oJ mx, oS, oI ng, oI he, oI ee, oI mm, oI cr, oI cc, oR b1, oJ nn, oS, oI ng, oI bs, oI ln, oR b61, oI la, oI so, oI ps, oI dg, oU, oU, oU, oU, oU, oU, oU, oU, oU, oU] [(.int so)]
                              by_cases c725_171 : so = (0 : Int32)
                              · skip
                                refine own_st (fun _ k => XS.ifYes X140.here hx rfl (pc0 := 725) (pc' := 749) rfl (hb hby at_725) rfl ((if0 _ _).trans (teq c725_171).1) (by decide) (by decide) k) ?_
                                show own_Go X140 (Q0 Z q0 q1 q2 p3 p4 p5 h0 n0) 2 41 749 #[oJ q0, oS, oJ q1, oS, oJ q2, oS, oI p3, oI p4, oI p5, oJ mn, oS, oJ mx, oS, oI ng, oI he, oI ee, oI mm, oI cr, oI cc, oR b1, oJ nn, oS, oI ng, oI bs, oI ln, oR b61, oI la, oI so, oI ps, oI dg, oU, oU, oU, oU, oU, oU, oU, oU, oU, oU] []
                                refine own_st (fun _ k => XS.iconst X140.here hx rfl (hb hby at_749) k) ?_
                                show own_Go X140 (Q0 Z q0 q1 q2 p3 p4 p5 h0 n0) 2 41 750 #[oJ q0, oS, oJ q1, oS, oJ q2, oS, oI p3, oI p4, oI p5, oJ mn, oS, oJ mx, oS, oI ng, oI he, oI ee, oI mm, oI cr, oI cc, oR b1, oJ nn, oS, oI ng, oI bs, oI ln, oR b61, oI la, oI so, oI ps, oI dg, oU, oU, oU, oU, oU, oU, oU, oU, oU, oU] [(.int (0 : Int32))]
                                exact J750 _ (by unfold own_co; rw [if_neg c720_170, if_pos c725_171])
                              · skip
                                refine own_st (fun _ k => XS.ifNo X140.here hx rfl (hb hby at_725) rfl ((if0 _ _).trans (feq c725_171).1) k) ?_
                                show own_Go X140 (Q0 Z q0 q1 q2 p3 p4 p5 h0 n0) 2 41 728 #[oJ q0, oS, oJ q1, oS, oJ q2, oS, oI p3, oI p4, oI p5, oJ mn, oS, oJ mx, oS, oI ng, oI he, oI ee, oI mm, oI cr, oI cc, oR b1, oJ nn, oS, oI ng, oI bs, oI ln, oR b61, oI la, oI so, oI ps, oI dg, oU, oU, oU, oU, oU, oU, oU, oU, oU, oU] []
                                refine own_st (fun _ k => XS.iload X140.here hx rfl (hb hby at_728) rfl k) ?_
                                show own_Go X140 (Q0 Z q0 q1 q2 p3 p4 p5 h0 n0) 2 41 730 #[oJ q0, oS, oJ q1, oS, oJ q2, oS, oI p3, oI p4, oI p5, oJ mn, oS, oJ mx, oS, oI ng, oI he, oI ee, oI mm, oI cr, oI cc, oR b1, oJ nn, oS, oI ng, oI bs, oI ln, oR b61, oI la, oI so, oI ps, oI dg, oU, oU, oU, oU, oU, oU, oU, oU, oU, oU] [(.int dg)]
                                by_cases c730_172 : dg = (0 : Int32)
                                · skip
                                  refine own_st (fun _ k => XS.ifNo X140.here hx rfl (hb hby at_730) rfl ((if0 _ _).trans (teq c730_172).2) k) ?_
                                  show own_Go X140 (Q0 Z q0 q1 q2 p3 p4 p5 h0 n0) 2 41 733 #[oJ q0, oS, oJ q1, oS, oJ q2, oS, oI p3, oI p4, oI p5, oJ mn, oS, oJ mx, oS, oI ng, oI he, oI ee, oI mm, oI cr, oI cc, oR b1, oJ nn, oS, oI ng, oI bs, oI ln, oR b61, oI la, oI so, oI ps, oI dg, oU, oU, oU, oU, oU, oU, oU, oU, oU, oU] []
                                  refine own_st (fun _ k => XS.iload X140.here hx rfl (hb hby at_733) rfl k) ?_
                                  show own_Go X140 (Q0 Z q0 q1 q2 p3 p4 p5 h0 n0) 2 41 735 #[oJ q0, oS, oJ q1, oS, oJ q2, oS, oI p3, oI p4, oI p5, oJ mn, oS, oJ mx, oS, oI ng, oI he, oI ee, oI mm, oI cr, oI cc, oR b1, oJ nn, oS, oI ng, oI bs, oI ln, oR b61, oI la, oI so, oI ps, oI dg, oU, oU, oU, oU, oU, oU, oU, oU, oU, oU] [(.int ps)]
                                  by_cases c735_173 : ps = (0 : Int32)
                                  · skip
                                    refine own_st (fun _ k => XS.ifNo X140.here hx rfl (hb hby at_735) rfl ((if0 _ _).trans (teq c735_173).2) k) ?_
                                    show own_Go X140 (Q0 Z q0 q1 q2 p3 p4 p5 h0 n0) 2 41 738 #[oJ q0, oS, oJ q1, oS, oJ q2, oS, oI p3, oI p4, oI p5, oJ mn, oS, oJ mx, oS, oI ng, oI he, oI ee, oI mm, oI cr, oI cc, oR b1, oJ nn, oS, oI ng, oI bs, oI ln, oR b61, oI la, oI so, oI ps, oI dg, oU, oU, oU, oU, oU, oU, oU, oU, oU, oU] []
                                    refine own_st (fun _ k => XS.iload X140.here hx rfl (hb hby at_738) rfl k) ?_
                                    show own_Go X140 (Q0 Z q0 q1 q2 p3 p4 p5 h0 n0) 2 41 740 #[oJ q0, oS, oJ q1, oS, oJ q2, oS, oI p3, oI p4, oI p5, oJ mn, oS, oJ mx, oS, oI ng, oI he, oI ee, oI mm, oI cr, oI cc, oR b1, oJ nn, oS, oI ng, oI bs, oI ln, oR b61, oI la, oI so, oI ps, oI dg, oU, oU, oU, oU, oU, oU, oU, oU, oU, oU] [(.int cc)]
                                    refine own_st (fun _ k => XS.bipush X140.here hx rfl (hb hby at_740) k) ?_
                                    show own_Go X140 (Q0 Z q0 q1 q2 p3 p4 p5 h0 n0) 2 41 742 #[oJ q0, oS, oJ q1, oS, oJ q2, oS, oI p3, oI p4, oI p5, oJ mn, oS, oJ mx, oS, oI ng, oI he, oI ee, oI mm, oI cr, oI cc, oR b1, oJ nn, oS, oI ng, oI bs, oI ln, oR b61, oI la, oI so, oI ps, oI dg, oU, oU, oU, oU, oU, oU, oU, oU, oU, oU] [(.int (45 : Int32)), (.int cc)]
                                    by_cases c742_174 : cc = (45 : Int32)
                                    · skip
                                      refine own_st (fun _ k => XS.icmpYes X140.here hx rfl (pc0 := 742) (pc' := 749) rfl (hb hby at_742) rfl (teq c742_174).1 (by decide) (by decide) k) ?_
                                      show own_Go X140 (Q0 Z q0 q1 q2 p3 p4 p5 h0 n0) 2 41 749 #[oJ q0, oS, oJ q1, oS, oJ q2, oS, oI p3, oI p4, oI p5, oJ mn, oS, oJ mx, oS, oI ng, oI he, oI ee, oI mm, oI cr, oI cc, oR b1, oJ nn, oS, oI ng, oI bs, oI ln, oR b61, oI la, oI so, oI ps, oI dg, oU, oU, oU, oU, oU, oU, oU, oU, oU, oU] []
                                      refine own_st (fun _ k => XS.iconst X140.here hx rfl (hb hby at_749) k) ?_
                                      show own_Go X140 (Q0 Z q0 q1 q2 p3 p4 p5 h0 n0) 2 41 750 #[oJ q0, oS, oJ q1, oS, oJ q2, oS, oI p3, oI p4, oI p5, oJ mn, oS, oJ mx, oS, oI ng, oI he, oI ee, oI mm, oI cr, oI cc, oR b1, oJ nn, oS, oI ng, oI bs, oI ln, oR b61, oI la, oI so, oI ps, oI dg, oU, oU, oU, oU, oU, oU, oU, oU, oU, oU] [(.int (0 : Int32))]
                                      exact J750 _ (by unfold own_co; rw [if_neg c720_170, if_neg c725_171, if_pos c730_172, if_pos c735_173, if_pos c742_174])
                                    · skip
                                      refine own_st (fun _ k => XS.icmpNo X140.here hx rfl (hb hby at_742) rfl (feq c742_174).1 k) ?_
                                      show own_Go X140 (Q0 Z q0 q1 q2 p3 p4 p5 h0 n0) 2 41 745 #[oJ q0, oS, oJ q1, oS, oJ q2, oS, oI p3, oI p4, oI p5, oJ mn, oS, oJ mx, oS, oI ng, oI he, oI ee, oI mm, oI cr, oI cc, oR b1, oJ nn, oS, oI ng, oI bs, oI ln, oR b61, oI la, oI so, oI ps, oI dg, oU, oU, oU, oU, oU, oU, oU, oU, oU, oU] []
                                      refine own_st (fun _ k => XS.iconst X140.here hx rfl (hb hby at_745) k) ?_
                                      show own_Go X140 (Q0 Z q0 q1 q2 p3 p4 p5 h0 n0) 2 41 746 #[oJ q0, oS, oJ q1, oS, oJ q2, oS, oI p3, oI p4, oI p5, oJ mn, oS, oJ mx, oS, oI ng, oI he, oI ee, oI mm, oI cr, oI cc, oR b1, oJ nn, oS, oI ng, oI bs, oI ln, oR b61, oI la, oI so, oI ps, oI dg, oU, oU, oU, oU, oU, oU, oU, oU, oU, oU] [(.int (1 : Int32))]
                                      refine own_st (fun _ k => XS.goto X140.here hx rfl (pc0 := 746) (pc' := 750) rfl (hb hby at_746) (by decide) (by decide) k) ?_
                                      show own_Go X140 (Q0 Z q0 q1 q2 p3 p4 p5 h0 n0) 2 41 750 #[oJ q0, oS, oJ q1, oS, oJ q2, oS, oI p3, oI p4, oI p5, oJ mn, oS, oJ mx, oS, oI ng, oI he, oI ee, oI mm, oI cr, oI cc, oR b1, oJ nn, oS, oI ng, oI bs, oI ln, oR b61, oI la, oI so, oI ps, oI dg, oU, oU, oU, oU, oU, oU, oU, oU, oU, oU] [(.int (1 : Int32))]
                                      exact J750 _ (by unfold own_co; rw [if_neg c720_170, if_neg c725_171, if_pos c730_172, if_pos c735_173, if_neg c742_174])
                                  · skip
                                    refine own_st (fun _ k => XS.ifYes X140.here hx rfl (pc0 := 735) (pc' := 745) rfl (hb hby at_735) rfl ((if0 _ _).trans (feq c735_173).2) (by decide) (by decide) k) ?_
                                    show own_Go X140 (Q0 Z q0 q1 q2 p3 p4 p5 h0 n0) 2 41 745 #[oJ q0, oS, oJ q1, oS, oJ q2, oS, oI p3, oI p4, oI p5, oJ mn, oS, oJ mx, oS, oI ng, oI he, oI ee, oI mm, oI cr, oI cc, oR b1, oJ nn, oS, oI ng, oI bs, oI ln, oR b61, oI la, oI so, oI ps, oI dg, oU, oU, oU, oU, oU, oU, oU, oU, oU, oU] []
                                    refine own_st (fun _ k => XS.iconst X140.here hx rfl (hb hby at_745) k) ?_
                                    show own_Go X140 (Q0 Z q0 q1 q2 p3 p4 p5 h0 n0) 2 41 746 #[oJ q0, oS, oJ q1, oS, oJ q2, oS, oI p3, oI p4, oI p5, oJ mn, oS, oJ mx, oS, oI ng, oI he, oI ee, oI mm, oI cr, oI cc, oR b1, oJ nn, oS, oI ng, oI bs, oI ln, oR b61, oI la, oI so, oI ps, oI dg, oU, oU, oU, oU, oU, oU, oU, oU, oU, oU] [(.int (1 : Int32))]
                                    refine own_st (fun _ k => XS.goto X140.here hx rfl (pc0 := 746) (pc' := 750) rfl (hb hby at_746) (by decide) (by decide) k) ?_
                                    show own_Go X140 (Q0 Z q0 q1 q2 p3 p4 p5 h0 n0) 2 41 750 #[oJ q0, oS, oJ q1, oS, oJ q2, oS, oI p3, oI p4, oI p5, oJ mn, oS, oJ mx, oS, oI ng, oI he, oI ee, oI mm, oI cr, oI cc, oR b1, oJ nn, oS, oI ng, oI bs, oI ln, oR b61, oI la, oI so, oI ps, oI dg, oU, oU, oU, oU, oU, oU, oU, oU, oU, oU] [(.int (1 : Int32))]
                                    exact J750 _ (by unfold own_co; rw [if_neg c720_170, if_neg c725_171, if_pos c730_172, if_neg c735_173])
                                · skip
                                  refine own_st (fun _ k => XS.ifYes X140.here hx rfl (pc0 := 730) (pc' := 749) rfl (hb hby at_730) rfl ((if0 _ _).trans (feq c730_172).2) (by decide) (by decide) k) ?_
                                  show own_Go X140 (Q0 Z q0 q1 q2 p3 p4 p5 h0 n0) 2 41 749 #[oJ q0, oS, oJ q1, oS, oJ q2, oS, oI p3, oI p4, oI p5, oJ mn, oS, oJ mx, oS, oI ng, oI he, oI ee, oI mm, oI cr, oI cc, oR b1, oJ nn, oS, oI ng, oI bs, oI ln, oR b61, oI la, oI so, oI ps, oI dg, oU, oU, oU, oU, oU, oU, oU, oU, oU, oU] []
                                  refine own_st (fun _ k => XS.iconst X140.here hx rfl (hb hby at_749) k) ?_
                                  show own_Go X140 (Q0 Z q0 q1 q2 p3 p4 p5 h0 n0) 2 41 750 #[oJ q0, oS, oJ q1, oS, oJ q2, oS, oI p3, oI p4, oI p5, oJ mn, oS, oJ mx, oS, oI ng, oI he, oI ee, oI mm, oI cr, oI cc, oR b1, oJ nn, oS, oI ng, oI bs, oI ln, oR b61, oI la, oI so, oI ps, oI dg, oU, oU, oU, oU, oU, oU, oU, oU, oU, oU] [(.int (0 : Int32))]
                                  exact J750 _ (by unfold own_co; rw [if_neg c720_170, if_neg c725_171, if_neg c730_172])
                          refine own_st (fun _ k => XS.iload X140.here hx rfl (hb hby at_697) rfl k) ?_
                          show own_Go X140 (Q0 Z q0 q1 q2 p3 p4 p5 h0 n0) 2 41 699 #[oJ q0, oS, oJ q1, oS, oJ q2, oS, oI p3, oI p4, oI p5, oJ mn, oS, oJ mx, oS, oI ng, oI he, oI ee, oI mm, oI cr, oI cc, oR b1, oJ nn, oS, oI ng, oI bs, oI ln, oR b61, oI la, oI so, oI ps, oU, oU, oU, oU, oU, oU, oU, oU, oU, oU, oU] [(.int cc)]
                          refine own_st (fun _ k => XS.bipush X140.here hx rfl (hb hby at_699) k) ?_
                          show own_Go X140 (Q0 Z q0 q1 q2 p3 p4 p5 h0 n0) 2 41 701 #[oJ q0, oS, oJ q1, oS, oJ q2, oS, oI p3, oI p4, oI p5, oJ mn, oS, oJ mx, oS, oI ng, oI he, oI ee, oI mm, oI cr, oI cc, oR b1, oJ nn, oS, oI ng, oI bs, oI ln, oR b61, oI la, oI so, oI ps, oU, oU, oU, oU, oU, oU, oU, oU, oU, oU, oU] [(.int (48 : Int32)), (.int cc)]
                          by_cases c701_175 : cc < (48 : Int32)
                          · skip
                            refine own_st (fun _ k => XS.icmpYes X140.here hx rfl (pc0 := 701) (pc' := 715) rfl (hb hby at_701) rfl (tlt c701_175).1 (by decide) (by decide) k) ?_
                            show own_Go X140 (Q0 Z q0 q1 q2 p3 p4 p5 h0 n0) 2 41 715 #[oJ q0, oS, oJ q1, oS, oJ q2, oS, oI p3, oI p4, oI p5, oJ mn, oS, oJ mx, oS, oI ng, oI he, oI ee, oI mm, oI cr, oI cc, oR b1, oJ nn, oS, oI ng, oI bs, oI ln, oR b61, oI la, oI so, oI ps, oU, oU, oU, oU, oU, oU, oU, oU, oU, oU, oU] []
                            refine own_st (fun _ k => XS.iconst X140.here hx rfl (hb hby at_715) k) ?_
                            show own_Go X140 (Q0 Z q0 q1 q2 p3 p4 p5 h0 n0) 2 41 716 #[oJ q0, oS, oJ q1, oS, oJ q2, oS, oI p3, oI p4, oI p5, oJ mn, oS, oJ mx, oS, oI ng, oI he, oI ee, oI mm, oI cr, oI cc, oR b1, oJ nn, oS, oI ng, oI bs, oI ln, oR b61, oI la, oI so, oI ps, oU, oU, oU, oU, oU, oU, oU, oU, oU, oU, oU] [(.int (0 : Int32))]
                            exact J716 _ (by unfold own_dg; rw [if_pos c701_175])
                          · skip
                            refine own_st (fun _ k => XS.icmpNo X140.here hx rfl (hb hby at_701) rfl (flt c701_175).1 k) ?_
                            show own_Go X140 (Q0 Z q0 q1 q2 p3 p4 p5 h0 n0) 2 41 704 #[oJ q0, oS, oJ q1, oS, oJ q2, oS, oI p3, oI p4, oI p5, oJ mn, oS, oJ mx, oS, oI ng, oI he, oI ee, oI mm, oI cr, oI cc, oR b1, oJ nn, oS, oI ng, oI bs, oI ln, oR b61, oI la, oI so, oI ps, oU, oU, oU, oU, oU, oU, oU, oU, oU, oU, oU] []
                            refine own_st (fun _ k => XS.iload X140.here hx rfl (hb hby at_704) rfl k) ?_
                            show own_Go X140 (Q0 Z q0 q1 q2 p3 p4 p5 h0 n0) 2 41 706 #[oJ q0, oS, oJ q1, oS, oJ q2, oS, oI p3, oI p4, oI p5, oJ mn, oS, oJ mx, oS, oI ng, oI he, oI ee, oI mm, oI cr, oI cc, oR b1, oJ nn, oS, oI ng, oI bs, oI ln, oR b61, oI la, oI so, oI ps, oU, oU, oU, oU, oU, oU, oU, oU, oU, oU, oU] [(.int cc)]
                            refine own_st (fun _ k => XS.bipush X140.here hx rfl (hb hby at_706) k) ?_
                            show own_Go X140 (Q0 Z q0 q1 q2 p3 p4 p5 h0 n0) 2 41 708 #[oJ q0, oS, oJ q1, oS, oJ q2, oS, oI p3, oI p4, oI p5, oJ mn, oS, oJ mx, oS, oI ng, oI he, oI ee, oI mm, oI cr, oI cc, oR b1, oJ nn, oS, oI ng, oI bs, oI ln, oR b61, oI la, oI so, oI ps, oU, oU, oU, oU, oU, oU, oU, oU, oU, oU, oU] [(.int (57 : Int32)), (.int cc)]
                            by_cases c708_176 : (57 : Int32) < cc
                            · skip
                              refine own_st (fun _ k => XS.icmpYes X140.here hx rfl (pc0 := 708) (pc' := 715) rfl (hb hby at_708) rfl (tlt c708_176).2.2.1 (by decide) (by decide) k) ?_
                              show own_Go X140 (Q0 Z q0 q1 q2 p3 p4 p5 h0 n0) 2 41 715 #[oJ q0, oS, oJ q1, oS, oJ q2, oS, oI p3, oI p4, oI p5, oJ mn, oS, oJ mx, oS, oI ng, oI he, oI ee, oI mm, oI cr, oI cc, oR b1, oJ nn, oS, oI ng, oI bs, oI ln, oR b61, oI la, oI so, oI ps, oU, oU, oU, oU, oU, oU, oU, oU, oU, oU, oU] []
                              refine own_st (fun _ k => XS.iconst X140.here hx rfl (hb hby at_715) k) ?_
                              show own_Go X140 (Q0 Z q0 q1 q2 p3 p4 p5 h0 n0) 2 41 716 #[oJ q0, oS, oJ q1, oS, oJ q2, oS, oI p3, oI p4, oI p5, oJ mn, oS, oJ mx, oS, oI ng, oI he, oI ee, oI mm, oI cr, oI cc, oR b1, oJ nn, oS, oI ng, oI bs, oI ln, oR b61, oI la, oI so, oI ps, oU, oU, oU, oU, oU, oU, oU, oU, oU, oU, oU] [(.int (0 : Int32))]
                              exact J716 _ (by unfold own_dg; rw [if_neg c701_175, if_pos c708_176])
                            · skip
                              refine own_st (fun _ k => XS.icmpNo X140.here hx rfl (hb hby at_708) rfl (flt c708_176).2.2.1 k) ?_
                              show own_Go X140 (Q0 Z q0 q1 q2 p3 p4 p5 h0 n0) 2 41 711 #[oJ q0, oS, oJ q1, oS, oJ q2, oS, oI p3, oI p4, oI p5, oJ mn, oS, oJ mx, oS, oI ng, oI he, oI ee, oI mm, oI cr, oI cc, oR b1, oJ nn, oS, oI ng, oI bs, oI ln, oR b61, oI la, oI so, oI ps, oU, oU, oU, oU, oU, oU, oU, oU, oU, oU, oU] []
                              refine own_st (fun _ k => XS.iconst X140.here hx rfl (hb hby at_711) k) ?_
                              show own_Go X140 (Q0 Z q0 q1 q2 p3 p4 p5 h0 n0) 2 41 712 #[oJ q0, oS, oJ q1, oS, oJ q2, oS, oI p3, oI p4, oI p5, oJ mn, oS, oJ mx, oS, oI ng, oI he, oI ee, oI mm, oI cr, oI cc, oR b1, oJ nn, oS, oI ng, oI bs, oI ln, oR b61, oI la, oI so, oI ps, oU, oU, oU, oU, oU, oU, oU, oU, oU, oU, oU] [(.int (1 : Int32))]
                              refine own_st (fun _ k => XS.goto X140.here hx rfl (pc0 := 712) (pc' := 716) rfl (hb hby at_712) (by decide) (by decide) k) ?_
                              show own_Go X140 (Q0 Z q0 q1 q2 p3 p4 p5 h0 n0) 2 41 716 #[oJ q0, oS, oJ q1, oS, oJ q2, oS, oI p3, oI p4, oI p5, oJ mn, oS, oJ mx, oS, oI ng, oI he, oI ee, oI mm, oI cr, oI cc, oR b1, oJ nn, oS, oI ng, oI bs, oI ln, oR b61, oI la, oI so, oI ps, oU, oU, oU, oU, oU, oU, oU, oU, oU, oU, oU] [(.int (1 : Int32))]
                              exact J716 _ (by unfold own_dg; rw [if_neg c701_175, if_neg c708_176])
                        refine own_st (fun _ k => XS.iload X140.here hx rfl (hb hby at_671) rfl k) ?_
                        show own_Go X140 (Q0 Z q0 q1 q2 p3 p4 p5 h0 n0) 2 41 673 #[oJ q0, oS, oJ q1, oS, oJ q2, oS, oI p3, oI p4, oI p5, oJ mn, oS, oJ mx, oS, oI ng, oI he, oI ee, oI mm, oI cr, oI cc, oR b1, oJ nn, oS, oI ng, oI bs, oI ln, oR b61, oI la, oI so, oU, oU, oU, oU, oU, oU, oU, oU, oU, oU, oU, oU] [(.int so)]
                        by_cases c673_177 : so = (0 : Int32)
                        · skip
                          refine own_st (fun _ k => XS.ifYes X140.here hx rfl (pc0 := 673) (pc' := 693) rfl (hb hby at_673) rfl ((if0 _ _).trans (teq c673_177).1) (by decide) (by decide) k) ?_
                          show own_Go X140 (Q0 Z q0 q1 q2 p3 p4 p5 h0 n0) 2 41 693 #[oJ q0, oS, oJ q1, oS, oJ q2, oS, oI p3, oI p4, oI p5, oJ mn, oS, oJ mx, oS, oI ng, oI he, oI ee, oI mm, oI cr, oI cc, oR b1, oJ nn, oS, oI ng, oI bs, oI ln, oR b61, oI la, oI so, oU, oU, oU, oU, oU, oU, oU, oU, oU, oU, oU, oU] []
                          refine own_st (fun _ k => XS.iload X140.here hx rfl (hb hby at_693) rfl k) ?_
                          show own_Go X140 (Q0 Z q0 q1 q2 p3 p4 p5 h0 n0) 2 41 695 #[oJ q0, oS, oJ q1, oS, oJ q2, oS, oI p3, oI p4, oI p5, oJ mn, oS, oJ mx, oS, oI ng, oI he, oI ee, oI mm, oI cr, oI cc, oR b1, oJ nn, oS, oI ng, oI bs, oI ln, oR b61, oI la, oI so, oU, oU, oU, oU, oU, oU, oU, oU, oU, oU, oU, oU] [(.int ng)]
                          exact J695 _ (fun h => absurd c673_177 h)
                        · skip
                          refine own_st (fun _ k => XS.ifNo X140.here hx rfl (hb hby at_673) rfl ((if0 _ _).trans (feq c673_177).1) k) ?_
                          show own_Go X140 (Q0 Z q0 q1 q2 p3 p4 p5 h0 n0) 2 41 676 #[oJ q0, oS, oJ q1, oS, oJ q2, oS, oI p3, oI p4, oI p5, oJ mn, oS, oJ mx, oS, oI ng, oI he, oI ee, oI mm, oI cr, oI cc, oR b1, oJ nn, oS, oI ng, oI bs, oI ln, oR b61, oI la, oI so, oU, oU, oU, oU, oU, oU, oU, oU, oU, oU, oU, oU] []
                          refine own_st (fun _ k => XS.iload X140.here hx rfl (hb hby at_676) rfl k) ?_
                          show own_Go X140 (Q0 Z q0 q1 q2 p3 p4 p5 h0 n0) 2 41 678 #[oJ q0, oS, oJ q1, oS, oJ q2, oS, oI p3, oI p4, oI p5, oJ mn, oS, oJ mx, oS, oI ng, oI he, oI ee, oI mm, oI cr, oI cc, oR b1, oJ nn, oS, oI ng, oI bs, oI ln, oR b61, oI la, oI so, oU, oU, oU, oU, oU, oU, oU, oU, oU, oU, oU, oU] [(.int ng)]
                          refine own_st (fun _ k => XS.iload X140.here hx rfl (hb hby at_678) rfl k) ?_
                          show own_Go X140 (Q0 Z q0 q1 q2 p3 p4 p5 h0 n0) 2 41 680 #[oJ q0, oS, oJ q1, oS, oJ q2, oS, oI p3, oI p4, oI p5, oJ mn, oS, oJ mx, oS, oI ng, oI he, oI ee, oI mm, oI cr, oI cc, oR b1, oJ nn, oS, oI ng, oI bs, oI ln, oR b61, oI la, oI so, oU, oU, oU, oU, oU, oU, oU, oU, oU, oU, oU, oU] [(.int p5), (.int ng)]
                          refine own_st (fun t k => X140.ldcInt hx hown (mvT hZ (hw _ (List.mem_of_getElem? (i := 25) rfl))) (g := (mkF m 680 #[oJ q0, oS, oJ q1, oS, oJ q2, oS, oI p3, oI p4, oI p5, oJ mn, oS, oJ mx, oS, oI ng, oI he, oI ee, oI mm, oI cr, oI cc, oR b1, oJ nn, oS, oI ng, oI bs, oI ln, oR b61, oI la, oI so, oU, oU, oU, oU, oU, oU, oU, oU, oU, oU, oU, oU] [(.int p5), (.int ng)])) rfl (hb hby at_680) t k) ?_
                          show own_Go X140 (Q0 Z q0 q1 q2 p3 p4 p5 h0 n0) 2 41 682 #[oJ q0, oS, oJ q1, oS, oJ q2, oS, oI p3, oI p4, oI p5, oJ mn, oS, oJ mx, oS, oI ng, oI he, oI ee, oI mm, oI cr, oI cc, oR b1, oJ nn, oS, oI ng, oI bs, oI ln, oR b61, oI la, oI so, oU, oU, oU, oU, oU, oU, oU, oU, oU, oU, oU, oU] [(.int (2147483647 : Int32)), (.int p5), (.int ng)]
                          refine own_st (fun _ k => XS.iand X140.here hx rfl (hb hby at_682) rfl k) ?_
                          show own_Go X140 (Q0 Z q0 q1 q2 p3 p4 p5 h0 n0) 2 41 683 #[oJ q0, oS, oJ q1, oS, oJ q2, oS, oI p3, oI p4, oI p5, oJ mn, oS, oJ mx, oS, oI ng, oI he, oI ee, oI mm, oI cr, oI cc, oR b1, oJ nn, oS, oI ng, oI bs, oI ln, oR b61, oI la, oI so, oU, oU, oU, oU, oU, oU, oU, oU, oU, oU, oU, oU] [(.int (p5 &&& (2147483647 : Int32))), (.int ng)]
                          refine own_st (fun _ k => XS.iload X140.here hx rfl (hb hby at_683) rfl k) ?_
                          show own_Go X140 (Q0 Z q0 q1 q2 p3 p4 p5 h0 n0) 2 41 685 #[oJ q0, oS, oJ q1, oS, oJ q2, oS, oI p3, oI p4, oI p5, oJ mn, oS, oJ mx, oS, oI ng, oI he, oI ee, oI mm, oI cr, oI cc, oR b1, oJ nn, oS, oI ng, oI bs, oI ln, oR b61, oI la, oI so, oU, oU, oU, oU, oU, oU, oU, oU, oU, oU, oU, oU] [(.int ln), (.int (p5 &&& (2147483647 : Int32))), (.int ng)]
                          refine own_st (fun _ k => XS.iload X140.here hx rfl (hb hby at_685) rfl k) ?_
                          show own_Go X140 (Q0 Z q0 q1 q2 p3 p4 p5 h0 n0) 2 41 687 #[oJ q0, oS, oJ q1, oS, oJ q2, oS, oI p3, oI p4, oI p5, oJ mn, oS, oJ mx, oS, oI ng, oI he, oI ee, oI mm, oI cr, oI cc, oR b1, oJ nn, oS, oI ng, oI bs, oI ln, oR b61, oI la, oI so, oU, oU, oU, oU, oU, oU, oU, oU, oU, oU, oU, oU] [(.int ng), (.int ln), (.int (p5 &&& (2147483647 : Int32))), (.int ng)]
                          refine own_st (fun _ k => XS.isub X140.here hx rfl (hb hby at_687) rfl k) ?_
                          show own_Go X140 (Q0 Z q0 q1 q2 p3 p4 p5 h0 n0) 2 41 688 #[oJ q0, oS, oJ q1, oS, oJ q2, oS, oI p3, oI p4, oI p5, oJ mn, oS, oJ mx, oS, oI ng, oI he, oI ee, oI mm, oI cr, oI cc, oR b1, oJ nn, oS, oI ng, oI bs, oI ln, oR b61, oI la, oI so, oU, oU, oU, oU, oU, oU, oU, oU, oU, oU, oU, oU] [(.int (ln - ng)), (.int (p5 &&& (2147483647 : Int32))), (.int ng)]
                          refine own_st (fun _ k => iremM X140 hx rfl (hb hby at_688) rfl (own_dnz h01.1 hL22 (own_sof (by rw [← hso]; exact c673_177))) k) ?_
                          show own_Go X140 (Q0 Z q0 q1 q2 p3 p4 p5 h0 n0) 2 41 689 #[oJ q0, oS, oJ q1, oS, oJ q2, oS, oI p3, oI p4, oI p5, oJ mn, oS, oJ mx, oS, oI ng, oI he, oI ee, oI mm, oI cr, oI cc, oR b1, oJ nn, oS, oI ng, oI bs, oI ln, oR b61, oI la, oI so, oU, oU, oU, oU, oU, oU, oU, oU, oU, oU, oU, oU] [(.int ((p5 &&& (2147483647 : Int32)) % (ln - ng))), (.int ng)]
                          refine own_st (fun _ k => XS.iadd X140.here hx rfl (hb hby at_689) rfl k) ?_
                          show own_Go X140 (Q0 Z q0 q1 q2 p3 p4 p5 h0 n0) 2 41 690 #[oJ q0, oS, oJ q1, oS, oJ q2, oS, oI p3, oI p4, oI p5, oJ mn, oS, oJ mx, oS, oI ng, oI he, oI ee, oI mm, oI cr, oI cc, oR b1, oJ nn, oS, oI ng, oI bs, oI ln, oR b61, oI la, oI so, oU, oU, oU, oU, oU, oU, oU, oU, oU, oU, oU, oU] [(.int (ng + ((p5 &&& (2147483647 : Int32)) % (ln - ng))))]
                          refine own_st (fun _ k => XS.goto X140.here hx rfl (pc0 := 690) (pc' := 695) rfl (hb hby at_690) (by decide) (by decide) k) ?_
                          show own_Go X140 (Q0 Z q0 q1 q2 p3 p4 p5 h0 n0) 2 41 695 #[oJ q0, oS, oJ q1, oS, oJ q2, oS, oI p3, oI p4, oI p5, oJ mn, oS, oJ mx, oS, oI ng, oI he, oI ee, oI mm, oI cr, oI cc, oR b1, oJ nn, oS, oI ng, oI bs, oI ln, oR b61, oI la, oI so, oU, oU, oU, oU, oU, oU, oU, oU, oU, oU, oU, oU] [(.int (ng + ((p5 &&& (2147483647 : Int32)) % (ln - ng))))]
                          exact J695 _ (fun _ => own_psv h01.1 hL22 (own_sof (by rw [← hso]; exact c673_177)) rfl)
                      refine own_st (fun _ k => XS.iload X140.here hx rfl (hb hby at_657) rfl k) ?_
                      show own_Go X140 (Q0 Z q0 q1 q2 p3 p4 p5 h0 n0) 2 41 659 #[oJ q0, oS, oJ q1, oS, oJ q2, oS, oI p3, oI p4, oI p5, oJ mn, oS, oJ mx, oS, oI ng, oI he, oI ee, oI mm, oI cr, oI cc, oR b1, oJ nn, oS, oI ng, oI bs, oI ln, oR b61, oI la, oU, oU, oU, oU, oU, oU, oU, oU, oU, oU, oU, oU, oU] [(.int ln)]
                      refine own_st (fun _ k => XS.iload X140.here hx rfl (hb hby at_659) rfl k) ?_
                      show own_Go X140 (Q0 Z q0 q1 q2 p3 p4 p5 h0 n0) 2 41 661 #[oJ q0, oS, oJ q1, oS, oJ q2, oS, oI p3, oI p4, oI p5, oJ mn, oS, oJ mx, oS, oI ng, oI he, oI ee, oI mm, oI cr, oI cc, oR b1, oJ nn, oS, oI ng, oI bs, oI ln, oR b61, oI la, oU, oU, oU, oU, oU, oU, oU, oU, oU, oU, oU, oU, oU] [(.int ng), (.int ln)]
                      by_cases c661_178 : ng < ln
                      · skip
                        refine own_st (fun _ k => XS.icmpNo X140.here hx rfl (hb hby at_661) rfl (tlt c661_178).2.2.2 k) ?_
                        show own_Go X140 (Q0 Z q0 q1 q2 p3 p4 p5 h0 n0) 2 41 664 #[oJ q0, oS, oJ q1, oS, oJ q2, oS, oI p3, oI p4, oI p5, oJ mn, oS, oJ mx, oS, oI ng, oI he, oI ee, oI mm, oI cr, oI cc, oR b1, oJ nn, oS, oI ng, oI bs, oI ln, oR b61, oI la, oU, oU, oU, oU, oU, oU, oU, oU, oU, oU, oU, oU, oU] []
                        refine own_st (fun _ k => XS.iconst X140.here hx rfl (hb hby at_664) k) ?_
                        show own_Go X140 (Q0 Z q0 q1 q2 p3 p4 p5 h0 n0) 2 41 665 #[oJ q0, oS, oJ q1, oS, oJ q2, oS, oI p3, oI p4, oI p5, oJ mn, oS, oJ mx, oS, oI ng, oI he, oI ee, oI mm, oI cr, oI cc, oR b1, oJ nn, oS, oI ng, oI bs, oI ln, oR b61, oI la, oU, oU, oU, oU, oU, oU, oU, oU, oU, oU, oU, oU, oU] [(.int (1 : Int32))]
                        refine own_st (fun _ k => XS.goto X140.here hx rfl (pc0 := 665) (pc' := 669) rfl (hb hby at_665) (by decide) (by decide) k) ?_
                        show own_Go X140 (Q0 Z q0 q1 q2 p3 p4 p5 h0 n0) 2 41 669 #[oJ q0, oS, oJ q1, oS, oJ q2, oS, oI p3, oI p4, oI p5, oJ mn, oS, oJ mx, oS, oI ng, oI he, oI ee, oI mm, oI cr, oI cc, oR b1, oJ nn, oS, oI ng, oI bs, oI ln, oR b61, oI la, oU, oU, oU, oU, oU, oU, oU, oU, oU, oU, oU, oU, oU] [(.int (1 : Int32))]
                        exact J669 _ (by unfold own_so; rw [if_pos c661_178])
                      · skip
                        refine own_st (fun _ k => XS.icmpYes X140.here hx rfl (pc0 := 661) (pc' := 668) rfl (hb hby at_661) rfl (flt c661_178).2.2.2 (by decide) (by decide) k) ?_
                        show own_Go X140 (Q0 Z q0 q1 q2 p3 p4 p5 h0 n0) 2 41 668 #[oJ q0, oS, oJ q1, oS, oJ q2, oS, oI p3, oI p4, oI p5, oJ mn, oS, oJ mx, oS, oI ng, oI he, oI ee, oI mm, oI cr, oI cc, oR b1, oJ nn, oS, oI ng, oI bs, oI ln, oR b61, oI la, oU, oU, oU, oU, oU, oU, oU, oU, oU, oU, oU, oU, oU] []
                        refine own_st (fun _ k => XS.iconst X140.here hx rfl (hb hby at_668) k) ?_
                        show own_Go X140 (Q0 Z q0 q1 q2 p3 p4 p5 h0 n0) 2 41 669 #[oJ q0, oS, oJ q1, oS, oJ q2, oS, oI p3, oI p4, oI p5, oJ mn, oS, oJ mx, oS, oI ng, oI he, oI ee, oI mm, oI cr, oI cc, oR b1, oJ nn, oS, oI ng, oI bs, oI ln, oR b61, oI la, oU, oU, oU, oU, oU, oU, oU, oU, oU, oU, oU, oU, oU] [(.int (0 : Int32))]
                        exact J669 _ (by unfold own_so; rw [if_neg c661_178])
                    refine own_st (fun _ k => XS.iload X66.here hx rfl (hb hby at_304) rfl k) ?_
                    show own_Go X66 (Q0 Z q0 q1 q2 p3 p4 p5 h0 n0) 2 41 306 #[oJ q0, oS, oJ q1, oS, oJ q2, oS, oI p3, oI p4, oI p5, oJ mn, oS, oJ mx, oS, oI ng, oI he, oI ee, oI mm, oI cr, oI cc, oR b1, oJ nn, oS, oI ng, oI bs, oI ln, oR b61, oU, oU, oU, oU, oU, oU, oU, oU, oU, oU, oU, oU, oU, oU] [(.int he)]
                    by_cases c306_179 : he = (0 : Int32)
                    · skip
                      refine own_st (fun _ k => XS.ifYes X66.here hx rfl (pc0 := 306) (pc' := 320) rfl (hb hby at_306) rfl ((if0 _ _).trans (teq c306_179).1) (by decide) (by decide) k) ?_
                      show own_Go X66 (Q0 Z q0 q1 q2 p3 p4 p5 h0 n0) 2 41 320 #[oJ q0, oS, oJ q1, oS, oJ q2, oS, oI p3, oI p4, oI p5, oJ mn, oS, oJ mx, oS, oI ng, oI he, oI ee, oI mm, oI cr, oI cc, oR b1, oJ nn, oS, oI ng, oI bs, oI ln, oR b61, oU, oU, oU, oU, oU, oU, oU, oU, oU, oU, oU, oU, oU, oU] []
                      exact J320 _ (by unfold own_w1; rw [if_pos c306_179] <;> rfl) X66 e66 N66 Z66 f66_0 f66_1
                    · skip
                      refine own_st (fun _ k => XS.ifNo X66.here hx rfl (hb hby at_306) rfl ((if0 _ _).trans (feq c306_179).1) k) ?_
                      show own_Go X66 (Q0 Z q0 q1 q2 p3 p4 p5 h0 n0) 2 41 309 #[oJ q0, oS, oJ q1, oS, oJ q2, oS, oI p3, oI p4, oI p5, oJ mn, oS, oJ mx, oS, oI ng, oI he, oI ee, oI mm, oI cr, oI cc, oR b1, oJ nn, oS, oI ng, oI bs, oI ln, oR b61, oU, oU, oU, oU, oU, oU, oU, oU, oU, oU, oU, oU, oU, oU] []
                      refine own_st (fun _ k => XS.aload X66.here hx rfl (hb hby at_309) rfl rfl k) ?_
                      show own_Go X66 (Q0 Z q0 q1 q2 p3 p4 p5 h0 n0) 2 41 311 #[oJ q0, oS, oJ q1, oS, oJ q2, oS, oI p3, oI p4, oI p5, oJ mn, oS, oJ mx, oS, oI ng, oI he, oI ee, oI mm, oI cr, oI cc, oR b1, oJ nn, oS, oI ng, oI bs, oI ln, oR b61, oU, oU, oU, oU, oU, oU, oU, oU, oU, oU, oU, oU, oU, oU] [(.ref b61)]
                      refine own_st (fun _ k => XS.iload X66.here hx rfl (hb hby at_311) rfl k) ?_
                      show own_Go X66 (Q0 Z q0 q1 q2 p3 p4 p5 h0 n0) 2 41 313 #[oJ q0, oS, oJ q1, oS, oJ q2, oS, oI p3, oI p4, oI p5, oJ mn, oS, oJ mx, oS, oI ng, oI he, oI ee, oI mm, oI cr, oI cc, oR b1, oJ nn, oS, oI ng, oI bs, oI ln, oR b61, oU, oU, oU, oU, oU, oU, oU, oU, oU, oU, oU, oU, oU, oU] [(.int ng), (.ref b61)]
                      refine own_st (fun _ k => XS.bipush X66.here hx rfl (hb hby at_313) k) ?_
                      show own_Go X66 (Q0 Z q0 q1 q2 p3 p4 p5 h0 n0) 2 41 315 #[oJ q0, oS, oJ q1, oS, oJ q2, oS, oI p3, oI p4, oI p5, oJ mn, oS, oJ mx, oS, oI ng, oI he, oI ee, oI mm, oI cr, oI cc, oR b1, oJ nn, oS, oI ng, oI bs, oI ln, oR b61, oU, oU, oU, oU, oU, oU, oU, oU, oU, oU, oU, oU, oU, oU] [(.int (48 : Int32)), (.int ng), (.ref b61)]
                      refine own_st (fun _ k => XS.iload X66.here hx rfl (hb hby at_315) rfl k) ?_
                      show own_Go X66 (Q0 Z q0 q1 q2 p3 p4 p5 h0 n0) 2 41 317 #[oJ q0, oS, oJ q1, oS, oJ q2, oS, oI p3, oI p4, oI p5, oJ mn, oS, oJ mx, oS, oI ng, oI he, oI ee, oI mm, oI cr, oI cc, oR b1, oJ nn, oS, oI ng, oI bs, oI ln, oR b61, oU, oU, oU, oU, oU, oU, oU, oU, oU, oU, oU, oU, oU, oU] [(.int ee), (.int (48 : Int32)), (.int ng), (.ref b61)]
                      refine own_st (fun _ k => XS.iadd X66.here hx rfl (hb hby at_317) rfl k) ?_
                      show own_Go X66 (Q0 Z q0 q1 q2 p3 p4 p5 h0 n0) 2 41 318 #[oJ q0, oS, oJ q1, oS, oJ q2, oS, oI p3, oI p4, oI p5, oJ mn, oS, oJ mx, oS, oI ng, oI he, oI ee, oI mm, oI cr, oI cc, oR b1, oJ nn, oS, oI ng, oI bs, oI ln, oR b61, oU, oU, oU, oU, oU, oU, oU, oU, oU, oU, oU, oU, oU, oU] [(.int ((48 : Int32) + ee)), (.int ng), (.ref b61)]
                      refine own_st (fun _ k => XS.i2b X66.here hx rfl (hb hby at_318) rfl k) ?_
                      show own_Go X66 (Q0 Z q0 q1 q2 p3 p4 p5 h0 n0) 2 41 319 #[oJ q0, oS, oJ q1, oS, oJ q2, oS, oI p3, oI p4, oI p5, oJ mn, oS, oJ mx, oS, oI ng, oI he, oI ee, oI mm, oI cr, oI cc, oR b1, oJ nn, oS, oI ng, oI bs, oI ln, oR b61, oU, oU, oU, oU, oU, oU, oU, oU, oU, oU, oU, oU, oU, oU] [(.int (((48 : Int32) + ee).toInt8.toInt32)), (.int ng), (.ref b61)]
                      obtain ⟨T180, h180, X180, e180, W180, V180, st180⟩ := own_stB X66 hx hZ e66 f66_0 (j := ng) (own_in22 h01.1 (by omega)) (by rw [own_l0]; exact own_nn h01.1 (by omega)) (g := (mkF m 319 #[oJ q0, oS, oJ q1, oS, oJ q2, oS, oI p3, oI p4, oI p5, oJ mn, oS, oJ mx, oS, oI ng, oI he, oI ee, oI mm, oI cr, oI cc, oR b1, oJ nn, oS, oI ng, oI bs, oI ln, oR b61, oU, oU, oU, oU, oU, oU, oU, oU, oU, oU, oU, oU, oU, oU] [(.int (((48 : Int32) + ee).toInt8.toInt32)), (.int ng), (.ref b61)])) rfl rfl (hb hby at_319)
                      refine own_st st180 ?_
                      have f_181 := f66_1.other W180 ne_62
                      have Z_182 := Nat.le_trans Z66 (Nat.le_of_eq W180.size.symm)
                      have N_183 := Fr.snoc X180 N66 G_63
                      show own_Go X180 (Q0 Z q0 q1 q2 p3 p4 p5 h0 n0) 2 41 320 #[oJ q0, oS, oJ q1, oS, oJ q2, oS, oI p3, oI p4, oI p5, oJ mn, oS, oJ mx, oS, oI ng, oI he, oI ee, oI mm, oI cr, oI cc, oR b1, oJ nn, oS, oI ng, oI bs, oI ln, oR b61, oU, oU, oU, oU, oU, oU, oU, oU, oU, oU, oU, oU, oU, oU] []
                      exact J320 _ (by unfold own_w1; rw [if_neg c306_179] <;> rfl) X180 e180 N_183 Z_182 V180 f_181
                  refine own_st (fun _ k => XS.iload X61.here hx rfl (hb hby at_293) rfl k) ?_
                  show own_Go X61 (Q0 Z q0 q1 q2 p3 p4 p5 h0 n0) 2 41 295 #[oJ q0, oS, oJ q1, oS, oJ q2, oS, oI p3, oI p4, oI p5, oJ mn, oS, oJ mx, oS, oI ng, oI he, oI ee, oI mm, oI cr, oI cc, oR b1, oJ nn, oS, oI ng, oI bs, oI ln, oR b61, oU, oU, oU, oU, oU, oU, oU, oU, oU, oU, oU, oU, oU, oU] [(.int ng)]
                  by_cases c295_184 : ng = (0 : Int32)
                  · skip
                    refine own_st (fun _ k => XS.ifYes X61.here hx rfl (pc0 := 295) (pc' := 304) rfl (hb hby at_295) rfl ((if0 _ _).trans (teq c295_184).1) (by decide) (by decide) k) ?_
                    show own_Go X61 (Q0 Z q0 q1 q2 p3 p4 p5 h0 n0) 2 41 304 #[oJ q0, oS, oJ q1, oS, oJ q2, oS, oI p3, oI p4, oI p5, oJ mn, oS, oJ mx, oS, oI ng, oI he, oI ee, oI mm, oI cr, oI cc, oR b1, oJ nn, oS, oI ng, oI bs, oI ln, oR b61, oU, oU, oU, oU, oU, oU, oU, oU, oU, oU, oU, oU, oU, oU] []
                    exact J304 _ (by unfold own_w0; rw [if_pos c295_184] <;> rfl) X61 e61 N_60 Z_65 V61 f_64
                  · skip
                    refine own_st (fun _ k => XS.ifNo X61.here hx rfl (hb hby at_295) rfl ((if0 _ _).trans (feq c295_184).1) k) ?_
                    show own_Go X61 (Q0 Z q0 q1 q2 p3 p4 p5 h0 n0) 2 41 298 #[oJ q0, oS, oJ q1, oS, oJ q2, oS, oI p3, oI p4, oI p5, oJ mn, oS, oJ mx, oS, oI ng, oI he, oI ee, oI mm, oI cr, oI cc, oR b1, oJ nn, oS, oI ng, oI bs, oI ln, oR b61, oU, oU, oU, oU, oU, oU, oU, oU, oU, oU, oU, oU, oU, oU] []
                    refine own_st (fun _ k => XS.aload X61.here hx rfl (hb hby at_298) rfl rfl k) ?_
                    show own_Go X61 (Q0 Z q0 q1 q2 p3 p4 p5 h0 n0) 2 41 300 #[oJ q0, oS, oJ q1, oS, oJ q2, oS, oI p3, oI p4, oI p5, oJ mn, oS, oJ mx, oS, oI ng, oI he, oI ee, oI mm, oI cr, oI cc, oR b1, oJ nn, oS, oI ng, oI bs, oI ln, oR b61, oU, oU, oU, oU, oU, oU, oU, oU, oU, oU, oU, oU, oU, oU] [(.ref b61)]
                    refine own_st (fun _ k => XS.iconst X61.here hx rfl (hb hby at_300) k) ?_
                    show own_Go X61 (Q0 Z q0 q1 q2 p3 p4 p5 h0 n0) 2 41 301 #[oJ q0, oS, oJ q1, oS, oJ q2, oS, oI p3, oI p4, oI p5, oJ mn, oS, oJ mx, oS, oI ng, oI he, oI ee, oI mm, oI cr, oI cc, oR b1, oJ nn, oS, oI ng, oI bs, oI ln, oR b61, oU, oU, oU, oU, oU, oU, oU, oU, oU, oU, oU, oU, oU, oU] [(.int (0 : Int32)), (.ref b61)]
                    refine own_st (fun _ k => XS.bipush X61.here hx rfl (hb hby at_301) k) ?_
                    show own_Go X61 (Q0 Z q0 q1 q2 p3 p4 p5 h0 n0) 2 41 303 #[oJ q0, oS, oJ q1, oS, oJ q2, oS, oI p3, oI p4, oI p5, oJ mn, oS, oJ mx, oS, oI ng, oI he, oI ee, oI mm, oI cr, oI cc, oR b1, oJ nn, oS, oI ng, oI bs, oI ln, oR b61, oU, oU, oU, oU, oU, oU, oU, oU, oU, oU, oU, oU, oU, oU] [(.int (45 : Int32)), (.int (0 : Int32)), (.ref b61)]
                    obtain ⟨T185, h185, X185, e185, W185, V185, st185⟩ := own_stB X61 hx hZ e61 V61 (j := (0 : Int32)) ⟨by decide, by decide⟩ (Nat.le_of_ble_eq_true rfl) (g := (mkF m 303 #[oJ q0, oS, oJ q1, oS, oJ q2, oS, oI p3, oI p4, oI p5, oJ mn, oS, oJ mx, oS, oI ng, oI he, oI ee, oI mm, oI cr, oI cc, oR b1, oJ nn, oS, oI ng, oI bs, oI ln, oR b61, oU, oU, oU, oU, oU, oU, oU, oU, oU, oU, oU, oU, oU, oU] [(.int (45 : Int32)), (.int (0 : Int32)), (.ref b61)])) rfl rfl (hb hby at_303)
                    refine own_st st185 ?_
                    have f_186 := f_64.other W185 ne_62
                    have Z_187 := Nat.le_trans Z_65 (Nat.le_of_eq W185.size.symm)
                    have U185 : Arv Z h185 b61 k61 .byte (22 : Int32) [(.int (45 : Int32).toInt8.toInt32), (.int (0 : Int32)), (.int (0 : Int32)), (.int (0 : Int32)), (.int (0 : Int32)), (.int (0 : Int32)), (.int (0 : Int32)), (.int (0 : Int32)), (.int (0 : Int32)), (.int (0 : Int32)), (.int (0 : Int32)), (.int (0 : Int32)), (.int (0 : Int32)), (.int (0 : Int32)), (.int (0 : Int32)), (.int (0 : Int32)), (.int (0 : Int32)), (.int (0 : Int32)), (.int (0 : Int32)), (.int (0 : Int32)), (.int (0 : Int32)), (.int (0 : Int32))] (.int (0 : Int32)) := V185
                    have N_188 := Fr.snoc X185 N_60 G_63
                    show own_Go X185 (Q0 Z q0 q1 q2 p3 p4 p5 h0 n0) 2 41 304 #[oJ q0, oS, oJ q1, oS, oJ q2, oS, oI p3, oI p4, oI p5, oJ mn, oS, oJ mx, oS, oI ng, oI he, oI ee, oI mm, oI cr, oI cc, oR b1, oJ nn, oS, oI ng, oI bs, oI ln, oR b61, oU, oU, oU, oU, oU, oU, oU, oU, oU, oU, oU, oU, oU, oU] []
                    exact J304 _ (by unfold own_w0; rw [if_neg c295_184] <;> rfl) X185 e185 N_188 Z_187 U185 f_186
                refine own_st (fun _ k => XS.iload X58.here hx rfl (hb hby at_267) rfl k) ?_
                show own_Go X58 (Q0 Z q0 q1 q2 p3 p4 p5 h0 n0) 2 41 269 #[oJ q0, oS, oJ q1, oS, oJ q2, oS, oI p3, oI p4, oI p5, oJ mn, oS, oJ mx, oS, oI ng, oI he, oI ee, oI mm, oI cr, oI cc, oR b1, oJ nn, oS, oI ng, oU, oU, oU, oU, oU, oU, oU, oU, oU, oU, oU, oU, oU, oU, oU, oU, oU] [(.int he), (.int ng)]
                by_cases c269_189 : he = (0 : Int32)
                · skip
                  refine own_st (fun _ k => XS.ifYes X58.here hx rfl (pc0 := 269) (pc' := 276) rfl (hb hby at_269) rfl ((if0 _ _).trans (teq c269_189).1) (by decide) (by decide) k) ?_
                  show own_Go X58 (Q0 Z q0 q1 q2 p3 p4 p5 h0 n0) 2 41 276 #[oJ q0, oS, oJ q1, oS, oJ q2, oS, oI p3, oI p4, oI p5, oJ mn, oS, oJ mx, oS, oI ng, oI he, oI ee, oI mm, oI cr, oI cc, oR b1, oJ nn, oS, oI ng, oU, oU, oU, oU, oU, oU, oU, oU, oU, oU, oU, oU, oU, oU, oU, oU, oU] [(.int ng)]
                  refine own_st (fun _ k => XS.iconst X58.here hx rfl (hb hby at_276) k) ?_
                  show own_Go X58 (Q0 Z q0 q1 q2 p3 p4 p5 h0 n0) 2 41 277 #[oJ q0, oS, oJ q1, oS, oJ q2, oS, oI p3, oI p4, oI p5, oJ mn, oS, oJ mx, oS, oI ng, oI he, oI ee, oI mm, oI cr, oI cc, oR b1, oJ nn, oS, oI ng, oU, oU, oU, oU, oU, oU, oU, oU, oU, oU, oU, oU, oU, oU, oU, oU, oU] [(.int (0 : Int32)), (.int ng)]
                  exact J277 _ c269_189
                · skip
                  refine own_st (fun _ k => XS.ifNo X58.here hx rfl (hb hby at_269) rfl ((if0 _ _).trans (feq c269_189).1) k) ?_
                  show own_Go X58 (Q0 Z q0 q1 q2 p3 p4 p5 h0 n0) 2 41 272 #[oJ q0, oS, oJ q1, oS, oJ q2, oS, oI p3, oI p4, oI p5, oJ mn, oS, oJ mx, oS, oI ng, oI he, oI ee, oI mm, oI cr, oI cc, oR b1, oJ nn, oS, oI ng, oU, oU, oU, oU, oU, oU, oU, oU, oU, oU, oU, oU, oU, oU, oU, oU, oU] [(.int ng)]
                  refine own_st (fun _ k => XS.iconst X58.here hx rfl (hb hby at_272) k) ?_
                  show own_Go X58 (Q0 Z q0 q1 q2 p3 p4 p5 h0 n0) 2 41 273 #[oJ q0, oS, oJ q1, oS, oJ q2, oS, oI p3, oI p4, oI p5, oJ mn, oS, oJ mx, oS, oI ng, oI he, oI ee, oI mm, oI cr, oI cc, oR b1, oJ nn, oS, oI ng, oU, oU, oU, oU, oU, oU, oU, oU, oU, oU, oU, oU, oU, oU, oU, oU, oU] [(.int (1 : Int32)), (.int ng)]
                  refine own_st (fun _ k => XS.goto X58.here hx rfl (pc0 := 273) (pc' := 277) rfl (hb hby at_273) (by decide) (by decide) k) ?_
                  show own_Go X58 (Q0 Z q0 q1 q2 p3 p4 p5 h0 n0) 2 41 277 #[oJ q0, oS, oJ q1, oS, oJ q2, oS, oI p3, oI p4, oI p5, oJ mn, oS, oJ mx, oS, oI ng, oI he, oI ee, oI mm, oI cr, oI cc, oR b1, oJ nn, oS, oI ng, oU, oU, oU, oU, oU, oU, oU, oU, oU, oU, oU, oU, oU, oU, oU, oU, oU] [(.int (1 : Int32)), (.int ng)]
                  exact J277 _ (hhe.resolve_left c269_189)
              refine own_st (fun _ k => XS.iload X58.here hx rfl (hb hby at_253) rfl k) ?_
              show own_Go X58 (Q0 Z q0 q1 q2 p3 p4 p5 h0 n0) 2 41 255 #[oJ q0, oS, oJ q1, oS, oJ q2, oS, oI p3, oI p4, oI p5, oJ mn, oS, oJ mx, oS, oI ng, oI he, oI ee, oI mm, oI cr, oI cc, oR b1, oJ nn, oS, oU, oU, oU, oU, oU, oU, oU, oU, oU, oU, oU, oU, oU, oU, oU, oU, oU, oU] [(.int ng)]
              by_cases c255_190 : ng = (0 : Int32)
              · skip
                refine own_st (fun _ k => XS.ifYes X58.here hx rfl (pc0 := 255) (pc' := 262) rfl (hb hby at_255) rfl ((if0 _ _).trans (teq c255_190).1) (by decide) (by decide) k) ?_
                show own_Go X58 (Q0 Z q0 q1 q2 p3 p4 p5 h0 n0) 2 41 262 #[oJ q0, oS, oJ q1, oS, oJ q2, oS, oI p3, oI p4, oI p5, oJ mn, oS, oJ mx, oS, oI ng, oI he, oI ee, oI mm, oI cr, oI cc, oR b1, oJ nn, oS, oU, oU, oU, oU, oU, oU, oU, oU, oU, oU, oU, oU, oU, oU, oU, oU, oU, oU] []
                refine own_st (fun _ k => XS.iconst X58.here hx rfl (hb hby at_262) k) ?_
                show own_Go X58 (Q0 Z q0 q1 q2 p3 p4 p5 h0 n0) 2 41 263 #[oJ q0, oS, oJ q1, oS, oJ q2, oS, oI p3, oI p4, oI p5, oJ mn, oS, oJ mx, oS, oI ng, oI he, oI ee, oI mm, oI cr, oI cc, oR b1, oJ nn, oS, oU, oU, oU, oU, oU, oU, oU, oU, oU, oU, oU, oU, oU, oU, oU, oU, oU, oU] [(.int (0 : Int32))]
                exact J263 _ c255_190
              · skip
                refine own_st (fun _ k => XS.ifNo X58.here hx rfl (hb hby at_255) rfl ((if0 _ _).trans (feq c255_190).1) k) ?_
                show own_Go X58 (Q0 Z q0 q1 q2 p3 p4 p5 h0 n0) 2 41 258 #[oJ q0, oS, oJ q1, oS, oJ q2, oS, oI p3, oI p4, oI p5, oJ mn, oS, oJ mx, oS, oI ng, oI he, oI ee, oI mm, oI cr, oI cc, oR b1, oJ nn, oS, oU, oU, oU, oU, oU, oU, oU, oU, oU, oU, oU, oU, oU, oU, oU, oU, oU, oU] []
                refine own_st (fun _ k => XS.iconst X58.here hx rfl (hb hby at_258) k) ?_
                show own_Go X58 (Q0 Z q0 q1 q2 p3 p4 p5 h0 n0) 2 41 259 #[oJ q0, oS, oJ q1, oS, oJ q2, oS, oI p3, oI p4, oI p5, oJ mn, oS, oJ mx, oS, oI ng, oI he, oI ee, oI mm, oI cr, oI cc, oR b1, oJ nn, oS, oU, oU, oU, oU, oU, oU, oU, oU, oU, oU, oU, oU, oU, oU, oU, oU, oU, oU] [(.int (1 : Int32))]
                refine own_st (fun _ k => XS.goto X58.here hx rfl (pc0 := 259) (pc' := 263) rfl (hb hby at_259) (by decide) (by decide) k) ?_
                show own_Go X58 (Q0 Z q0 q1 q2 p3 p4 p5 h0 n0) 2 41 263 #[oJ q0, oS, oJ q1, oS, oJ q2, oS, oI p3, oI p4, oI p5, oJ mn, oS, oJ mx, oS, oI ng, oI he, oI ee, oI mm, oI cr, oI cc, oR b1, oJ nn, oS, oU, oU, oU, oU, oU, oU, oU, oU, oU, oU, oU, oU, oU, oU, oU, oU, oU, oU] [(.int (1 : Int32))]
                exact J263 _ (hng.resolve_left c255_190)
            refine own_st (fun _ k => XS.lloadN X58.here hx rfl (hb hby at_239) rfl k) ?_
            show own_Go X58 (Q0 Z q0 q1 q2 p3 p4 p5 h0 n0) 2 41 240 #[oJ q0, oS, oJ q1, oS, oJ q2, oS, oI p3, oI p4, oI p5, oJ mn, oS, oJ mx, oS, oI ng, oI he, oI ee, oI mm, oI cr, oI cc, oR b1, oU, oU, oU, oU, oU, oU, oU, oU, oU, oU, oU, oU, oU, oU, oU, oU, oU, oU, oU, oU] [(.long q0)]
            refine own_st (fun _ k => XS.lconst X58.here hx rfl (hb hby at_240) k) ?_
            show own_Go X58 (Q0 Z q0 q1 q2 p3 p4 p5 h0 n0) 2 41 241 #[oJ q0, oS, oJ q1, oS, oJ q2, oS, oI p3, oI p4, oI p5, oJ mn, oS, oJ mx, oS, oI ng, oI he, oI ee, oI mm, oI cr, oI cc, oR b1, oU, oU, oU, oU, oU, oU, oU, oU, oU, oU, oU, oU, oU, oU, oU, oU, oU, oU, oU, oU] [(.long (0 : Int64)), (.long q0)]
            refine own_st (fun _ k => XS.lcmp X58.here hx rfl (hb hby at_241) rfl k) ?_
            show own_Go X58 (Q0 Z q0 q1 q2 p3 p4 p5 h0 n0) 2 41 242 #[oJ q0, oS, oJ q1, oS, oJ q2, oS, oI p3, oI p4, oI p5, oJ mn, oS, oJ mx, oS, oI ng, oI he, oI ee, oI mm, oI cr, oI cc, oR b1, oU, oU, oU, oU, oU, oU, oU, oU, oU, oU, oU, oU, oU, oU, oU, oU, oU, oU, oU, oU] [(.int (lcmpW q0 (0 : Int64)))]
            by_cases c242_191 : q0 < (0 : Int64)
            · skip
              refine own_st (fun _ k => XS.ifNo X58.here hx rfl (hb hby at_242) rfl ((if0 _ _).trans (tlt ((lw_lt _ _).mpr c242_191)).2.1) k) ?_
              show own_Go X58 (Q0 Z q0 q1 q2 p3 p4 p5 h0 n0) 2 41 245 #[oJ q0, oS, oJ q1, oS, oJ q2, oS, oI p3, oI p4, oI p5, oJ mn, oS, oJ mx, oS, oI ng, oI he, oI ee, oI mm, oI cr, oI cc, oR b1, oU, oU, oU, oU, oU, oU, oU, oU, oU, oU, oU, oU, oU, oU, oU, oU, oU, oU, oU, oU] []
              refine own_st (fun _ k => XS.lloadN X58.here hx rfl (hb hby at_245) rfl k) ?_
              show own_Go X58 (Q0 Z q0 q1 q2 p3 p4 p5 h0 n0) 2 41 246 #[oJ q0, oS, oJ q1, oS, oJ q2, oS, oI p3, oI p4, oI p5, oJ mn, oS, oJ mx, oS, oI ng, oI he, oI ee, oI mm, oI cr, oI cc, oR b1, oU, oU, oU, oU, oU, oU, oU, oU, oU, oU, oU, oU, oU, oU, oU, oU, oU, oU, oU, oU] [(.long q0)]
              refine own_st (fun _ k => XS.goto X58.here hx rfl (pc0 := 246) (pc' := 251) rfl (hb hby at_246) (by decide) (by decide) k) ?_
              show own_Go X58 (Q0 Z q0 q1 q2 p3 p4 p5 h0 n0) 2 41 251 #[oJ q0, oS, oJ q1, oS, oJ q2, oS, oI p3, oI p4, oI p5, oJ mn, oS, oJ mx, oS, oI ng, oI he, oI ee, oI mm, oI cr, oI cc, oR b1, oU, oU, oU, oU, oU, oU, oU, oU, oU, oU, oU, oU, oU, oU, oU, oU, oU, oU, oU, oU] [(.long q0)]
              exact J251 _ (own_mn1 c242_191)
            · skip
              refine own_st (fun _ k => XS.ifYes X58.here hx rfl (pc0 := 242) (pc' := 249) rfl (hb hby at_242) rfl ((if0 _ _).trans (flt (fun q => c242_191 ((lw_lt _ _).mp q))).2.1) (by decide) (by decide) k) ?_
              show own_Go X58 (Q0 Z q0 q1 q2 p3 p4 p5 h0 n0) 2 41 249 #[oJ q0, oS, oJ q1, oS, oJ q2, oS, oI p3, oI p4, oI p5, oJ mn, oS, oJ mx, oS, oI ng, oI he, oI ee, oI mm, oI cr, oI cc, oR b1, oU, oU, oU, oU, oU, oU, oU, oU, oU, oU, oU, oU, oU, oU, oU, oU, oU, oU, oU, oU] []
              refine own_st (fun _ k => XS.lloadN X58.here hx rfl (hb hby at_249) rfl k) ?_
              show own_Go X58 (Q0 Z q0 q1 q2 p3 p4 p5 h0 n0) 2 41 250 #[oJ q0, oS, oJ q1, oS, oJ q2, oS, oI p3, oI p4, oI p5, oJ mn, oS, oJ mx, oS, oI ng, oI he, oI ee, oI mm, oI cr, oI cc, oR b1, oU, oU, oU, oU, oU, oU, oU, oU, oU, oU, oU, oU, oU, oU, oU, oU, oU, oU, oU, oU] [(.long q0)]
              refine own_st (fun _ k => XS.lneg X58.here hx rfl (hb hby at_250) rfl k) ?_
              show own_Go X58 (Q0 Z q0 q1 q2 p3 p4 p5 h0 n0) 2 41 251 #[oJ q0, oS, oJ q1, oS, oJ q2, oS, oI p3, oI p4, oI p5, oJ mn, oS, oJ mx, oS, oI ng, oI he, oI ee, oI mm, oI cr, oI cc, oR b1, oU, oU, oU, oU, oU, oU, oU, oU, oU, oU, oU, oU, oU, oU, oU, oU, oU, oU, oU, oU] [(.long (-q0))]
              exact J251 _ (own_mn2 c242_191)
          refine own_st (fun _ k => XS.iload X0.here hx rfl (hb hby at_87) rfl k) ?_
          show own_Go X0 (Q0 Z q0 q1 q2 p3 p4 p5 h0 n0) 2 41 89 #[oJ q0, oS, oJ q1, oS, oJ q2, oS, oI p3, oI p4, oI p5, oJ mn, oS, oJ mx, oS, oI ng, oI he, oI ee, oI mm, oU, oU, oU, oU, oU, oU, oU, oU, oU, oU, oU, oU, oU, oU, oU, oU, oU, oU, oU, oU, oU, oU, oU] [(.int p3)]
          refine own_st (fun _ k => XS.sipush X0.here hx rfl (hb hby at_89) k) ?_
          show own_Go X0 (Q0 Z q0 q1 q2 p3 p4 p5 h0 n0) 2 41 92 #[oJ q0, oS, oJ q1, oS, oJ q2, oS, oI p3, oI p4, oI p5, oJ mn, oS, oJ mx, oS, oI ng, oI he, oI ee, oI mm, oU, oU, oU, oU, oU, oU, oU, oU, oU, oU, oU, oU, oU, oU, oU, oU, oU, oU, oU, oU, oU, oU, oU] [(.int (2048 : Int32)), (.int p3)]
          refine own_st (fun _ k => XS.iand X0.here hx rfl (hb hby at_92) rfl k) ?_
          show own_Go X0 (Q0 Z q0 q1 q2 p3 p4 p5 h0 n0) 2 41 93 #[oJ q0, oS, oJ q1, oS, oJ q2, oS, oI p3, oI p4, oI p5, oJ mn, oS, oJ mx, oS, oI ng, oI he, oI ee, oI mm, oU, oU, oU, oU, oU, oU, oU, oU, oU, oU, oU, oU, oU, oU, oU, oU, oU, oU, oU, oU, oU, oU, oU] [(.int (p3 &&& (2048 : Int32)))]
          by_cases c93_192 : (p3 &&& (2048 : Int32)) = (0 : Int32)
          · skip
            refine own_st (fun _ k => XS.ifYes X0.here hx rfl (pc0 := 93) (pc' := 100) rfl (hb hby at_93) rfl ((if0 _ _).trans (teq c93_192).1) (by decide) (by decide) k) ?_
            show own_Go X0 (Q0 Z q0 q1 q2 p3 p4 p5 h0 n0) 2 41 100 #[oJ q0, oS, oJ q1, oS, oJ q2, oS, oI p3, oI p4, oI p5, oJ mn, oS, oJ mx, oS, oI ng, oI he, oI ee, oI mm, oU, oU, oU, oU, oU, oU, oU, oU, oU, oU, oU, oU, oU, oU, oU, oU, oU, oU, oU, oU, oU, oU, oU] []
            refine own_st (fun _ k => XS.iconst X0.here hx rfl (hb hby at_100) k) ?_
            show own_Go X0 (Q0 Z q0 q1 q2 p3 p4 p5 h0 n0) 2 41 101 #[oJ q0, oS, oJ q1, oS, oJ q2, oS, oI p3, oI p4, oI p5, oJ mn, oS, oJ mx, oS, oI ng, oI he, oI ee, oI mm, oU, oU, oU, oU, oU, oU, oU, oU, oU, oU, oU, oU, oU, oU, oU, oU, oU, oU, oU, oU, oU, oU, oU] [(.int (0 : Int32))]
            exact J101 _ (Or.inl rfl)
          · skip
            refine own_st (fun _ k => XS.ifNo X0.here hx rfl (hb hby at_93) rfl ((if0 _ _).trans (feq c93_192).1) k) ?_
            show own_Go X0 (Q0 Z q0 q1 q2 p3 p4 p5 h0 n0) 2 41 96 #[oJ q0, oS, oJ q1, oS, oJ q2, oS, oI p3, oI p4, oI p5, oJ mn, oS, oJ mx, oS, oI ng, oI he, oI ee, oI mm, oU, oU, oU, oU, oU, oU, oU, oU, oU, oU, oU, oU, oU, oU, oU, oU, oU, oU, oU, oU, oU, oU, oU] []
            refine own_st (fun _ k => XS.iconst X0.here hx rfl (hb hby at_96) k) ?_
            show own_Go X0 (Q0 Z q0 q1 q2 p3 p4 p5 h0 n0) 2 41 97 #[oJ q0, oS, oJ q1, oS, oJ q2, oS, oI p3, oI p4, oI p5, oJ mn, oS, oJ mx, oS, oI ng, oI he, oI ee, oI mm, oU, oU, oU, oU, oU, oU, oU, oU, oU, oU, oU, oU, oU, oU, oU, oU, oU, oU, oU, oU, oU, oU, oU] [(.int (1 : Int32))]
            refine own_st (fun _ k => XS.goto X0.here hx rfl (pc0 := 97) (pc' := 101) rfl (hb hby at_97) (by decide) (by decide) k) ?_
            show own_Go X0 (Q0 Z q0 q1 q2 p3 p4 p5 h0 n0) 2 41 101 #[oJ q0, oS, oJ q1, oS, oJ q2, oS, oI p3, oI p4, oI p5, oJ mn, oS, oJ mx, oS, oI ng, oI he, oI ee, oI mm, oU, oU, oU, oU, oU, oU, oU, oU, oU, oU, oU, oU, oU, oU, oU, oU, oU, oU, oU, oU, oU, oU, oU] [(.int (1 : Int32))]
            exact J101 _ (Or.inr rfl)
        refine own_st (fun _ k => XS.iload X0.here hx rfl (hb hby at_48) rfl k) ?_
        show own_Go X0 (Q0 Z q0 q1 q2 p3 p4 p5 h0 n0) 2 41 50 #[oJ q0, oS, oJ q1, oS, oJ q2, oS, oI p3, oI p4, oI p5, oJ mn, oS, oJ mx, oS, oI ng, oU, oU, oU, oU, oU, oU, oU, oU, oU, oU, oU, oU, oU, oU, oU, oU, oU, oU, oU, oU, oU, oU, oU, oU, oU, oU] [(.int p3)]
        refine own_st (fun _ k => XS.iconst X0.here hx rfl (hb hby at_50) k) ?_
        show own_Go X0 (Q0 Z q0 q1 q2 p3 p4 p5 h0 n0) 2 41 51 #[oJ q0, oS, oJ q1, oS, oJ q2, oS, oI p3, oI p4, oI p5, oJ mn, oS, oJ mx, oS, oI ng, oU, oU, oU, oU, oU, oU, oU, oU, oU, oU, oU, oU, oU, oU, oU, oU, oU, oU, oU, oU, oU, oU, oU, oU, oU, oU] [(.int (2 : Int32)), (.int p3)]
        refine own_st (fun _ k => XS.iand X0.here hx rfl (hb hby at_51) rfl k) ?_
        show own_Go X0 (Q0 Z q0 q1 q2 p3 p4 p5 h0 n0) 2 41 52 #[oJ q0, oS, oJ q1, oS, oJ q2, oS, oI p3, oI p4, oI p5, oJ mn, oS, oJ mx, oS, oI ng, oU, oU, oU, oU, oU, oU, oU, oU, oU, oU, oU, oU, oU, oU, oU, oU, oU, oU, oU, oU, oU, oU, oU, oU, oU, oU] [(.int (p3 &&& (2 : Int32)))]
        by_cases c52_193 : (p3 &&& (2 : Int32)) = (0 : Int32)
        · skip
          refine own_st (fun _ k => XS.ifYes X0.here hx rfl (pc0 := 52) (pc' := 59) rfl (hb hby at_52) rfl ((if0 _ _).trans (teq c52_193).1) (by decide) (by decide) k) ?_
          show own_Go X0 (Q0 Z q0 q1 q2 p3 p4 p5 h0 n0) 2 41 59 #[oJ q0, oS, oJ q1, oS, oJ q2, oS, oI p3, oI p4, oI p5, oJ mn, oS, oJ mx, oS, oI ng, oU, oU, oU, oU, oU, oU, oU, oU, oU, oU, oU, oU, oU, oU, oU, oU, oU, oU, oU, oU, oU, oU, oU, oU, oU, oU] []
          refine own_st (fun _ k => XS.iconst X0.here hx rfl (hb hby at_59) k) ?_
          show own_Go X0 (Q0 Z q0 q1 q2 p3 p4 p5 h0 n0) 2 41 60 #[oJ q0, oS, oJ q1, oS, oJ q2, oS, oI p3, oI p4, oI p5, oJ mn, oS, oJ mx, oS, oI ng, oU, oU, oU, oU, oU, oU, oU, oU, oU, oU, oU, oU, oU, oU, oU, oU, oU, oU, oU, oU, oU, oU, oU, oU, oU, oU] [(.int (0 : Int32))]
          exact J60 _ (Or.inl rfl)
        · skip
          refine own_st (fun _ k => XS.ifNo X0.here hx rfl (hb hby at_52) rfl ((if0 _ _).trans (feq c52_193).1) k) ?_
          show own_Go X0 (Q0 Z q0 q1 q2 p3 p4 p5 h0 n0) 2 41 55 #[oJ q0, oS, oJ q1, oS, oJ q2, oS, oI p3, oI p4, oI p5, oJ mn, oS, oJ mx, oS, oI ng, oU, oU, oU, oU, oU, oU, oU, oU, oU, oU, oU, oU, oU, oU, oU, oU, oU, oU, oU, oU, oU, oU, oU, oU, oU, oU] []
          refine own_st (fun _ k => XS.iconst X0.here hx rfl (hb hby at_55) k) ?_
          show own_Go X0 (Q0 Z q0 q1 q2 p3 p4 p5 h0 n0) 2 41 56 #[oJ q0, oS, oJ q1, oS, oJ q2, oS, oI p3, oI p4, oI p5, oJ mn, oS, oJ mx, oS, oI ng, oU, oU, oU, oU, oU, oU, oU, oU, oU, oU, oU, oU, oU, oU, oU, oU, oU, oU, oU, oU, oU, oU, oU, oU, oU, oU] [(.int (1 : Int32))]
          refine own_st (fun _ k => XS.goto X0.here hx rfl (pc0 := 56) (pc' := 60) rfl (hb hby at_56) (by decide) (by decide) k) ?_
          show own_Go X0 (Q0 Z q0 q1 q2 p3 p4 p5 h0 n0) 2 41 60 #[oJ q0, oS, oJ q1, oS, oJ q2, oS, oI p3, oI p4, oI p5, oJ mn, oS, oJ mx, oS, oI ng, oU, oU, oU, oU, oU, oU, oU, oU, oU, oU, oU, oU, oU, oU, oU, oU, oU, oU, oU, oU, oU, oU, oU, oU, oU, oU] [(.int (1 : Int32))]
          exact J60 _ (Or.inr rfl)
      refine own_st (fun _ k => XS.iload X0.here hx rfl (hb hby at_34) rfl k) ?_
      show own_Go X0 (Q0 Z q0 q1 q2 p3 p4 p5 h0 n0) 2 41 36 #[oJ q0, oS, oJ q1, oS, oJ q2, oS, oI p3, oI p4, oI p5, oJ mn, oS, oJ mx, oS, oU, oU, oU, oU, oU, oU, oU, oU, oU, oU, oU, oU, oU, oU, oU, oU, oU, oU, oU, oU, oU, oU, oU, oU, oU, oU, oU] [(.int p3)]
      refine own_st (fun _ k => XS.iconst X0.here hx rfl (hb hby at_36) k) ?_
      show own_Go X0 (Q0 Z q0 q1 q2 p3 p4 p5 h0 n0) 2 41 37 #[oJ q0, oS, oJ q1, oS, oJ q2, oS, oI p3, oI p4, oI p5, oJ mn, oS, oJ mx, oS, oU, oU, oU, oU, oU, oU, oU, oU, oU, oU, oU, oU, oU, oU, oU, oU, oU, oU, oU, oU, oU, oU, oU, oU, oU, oU, oU] [(.int (1 : Int32)), (.int p3)]
      refine own_st (fun _ k => XS.iand X0.here hx rfl (hb hby at_37) rfl k) ?_
      show own_Go X0 (Q0 Z q0 q1 q2 p3 p4 p5 h0 n0) 2 41 38 #[oJ q0, oS, oJ q1, oS, oJ q2, oS, oI p3, oI p4, oI p5, oJ mn, oS, oJ mx, oS, oU, oU, oU, oU, oU, oU, oU, oU, oU, oU, oU, oU, oU, oU, oU, oU, oU, oU, oU, oU, oU, oU, oU, oU, oU, oU, oU] [(.int (p3 &&& (1 : Int32)))]
      by_cases c38_194 : (p3 &&& (1 : Int32)) = (0 : Int32)
      · skip
        refine own_st (fun _ k => XS.ifYes X0.here hx rfl (pc0 := 38) (pc' := 45) rfl (hb hby at_38) rfl ((if0 _ _).trans (teq c38_194).1) (by decide) (by decide) k) ?_
        show own_Go X0 (Q0 Z q0 q1 q2 p3 p4 p5 h0 n0) 2 41 45 #[oJ q0, oS, oJ q1, oS, oJ q2, oS, oI p3, oI p4, oI p5, oJ mn, oS, oJ mx, oS, oU, oU, oU, oU, oU, oU, oU, oU, oU, oU, oU, oU, oU, oU, oU, oU, oU, oU, oU, oU, oU, oU, oU, oU, oU, oU, oU] []
        refine own_st (fun _ k => XS.iconst X0.here hx rfl (hb hby at_45) k) ?_
        show own_Go X0 (Q0 Z q0 q1 q2 p3 p4 p5 h0 n0) 2 41 46 #[oJ q0, oS, oJ q1, oS, oJ q2, oS, oI p3, oI p4, oI p5, oJ mn, oS, oJ mx, oS, oU, oU, oU, oU, oU, oU, oU, oU, oU, oU, oU, oU, oU, oU, oU, oU, oU, oU, oU, oU, oU, oU, oU, oU, oU, oU, oU] [(.int (0 : Int32))]
        exact J46 _ (Or.inl rfl)
      · skip
        refine own_st (fun _ k => XS.ifNo X0.here hx rfl (hb hby at_38) rfl ((if0 _ _).trans (feq c38_194).1) k) ?_
        show own_Go X0 (Q0 Z q0 q1 q2 p3 p4 p5 h0 n0) 2 41 41 #[oJ q0, oS, oJ q1, oS, oJ q2, oS, oI p3, oI p4, oI p5, oJ mn, oS, oJ mx, oS, oU, oU, oU, oU, oU, oU, oU, oU, oU, oU, oU, oU, oU, oU, oU, oU, oU, oU, oU, oU, oU, oU, oU, oU, oU, oU, oU] []
        refine own_st (fun _ k => XS.iconst X0.here hx rfl (hb hby at_41) k) ?_
        show own_Go X0 (Q0 Z q0 q1 q2 p3 p4 p5 h0 n0) 2 41 42 #[oJ q0, oS, oJ q1, oS, oJ q2, oS, oI p3, oI p4, oI p5, oJ mn, oS, oJ mx, oS, oU, oU, oU, oU, oU, oU, oU, oU, oU, oU, oU, oU, oU, oU, oU, oU, oU, oU, oU, oU, oU, oU, oU, oU, oU, oU, oU] [(.int (1 : Int32))]
        refine own_st (fun _ k => XS.goto X0.here hx rfl (pc0 := 42) (pc' := 46) rfl (hb hby at_42) (by decide) (by decide) k) ?_
        show own_Go X0 (Q0 Z q0 q1 q2 p3 p4 p5 h0 n0) 2 41 46 #[oJ q0, oS, oJ q1, oS, oJ q2, oS, oI p3, oI p4, oI p5, oJ mn, oS, oJ mx, oS, oU, oU, oU, oU, oU, oU, oU, oU, oU, oU, oU, oU, oU, oU, oU, oU, oU, oU, oU, oU, oU, oU, oU, oU, oU, oU, oU] [(.int (1 : Int32))]
        exact J46 _ (Or.inr rfl)
    refine own_st (fun _ k => XS.lload X0.here hx rfl (hb hby at_14) rfl k) ?_
    show own_Go X0 (Q0 Z q0 q1 q2 p3 p4 p5 h0 n0) 2 41 16 #[oJ q0, oS, oJ q1, oS, oJ q2, oS, oI p3, oI p4, oI p5, oJ mn, oS, oU, oU, oU, oU, oU, oU, oU, oU, oU, oU, oU, oU, oU, oU, oU, oU, oU, oU, oU, oU, oU, oU, oU, oU, oU, oU, oU, oU, oU] [(.long q2)]
    refine own_st (fun _ k => XS.lconst X0.here hx rfl (hb hby at_16) k) ?_
    show own_Go X0 (Q0 Z q0 q1 q2 p3 p4 p5 h0 n0) 2 41 17 #[oJ q0, oS, oJ q1, oS, oJ q2, oS, oI p3, oI p4, oI p5, oJ mn, oS, oU, oU, oU, oU, oU, oU, oU, oU, oU, oU, oU, oU, oU, oU, oU, oU, oU, oU, oU, oU, oU, oU, oU, oU, oU, oU, oU, oU, oU] [(.long (0 : Int64)), (.long q2)]
    refine own_st (fun _ k => XS.lcmp X0.here hx rfl (hb hby at_17) rfl k) ?_
    show own_Go X0 (Q0 Z q0 q1 q2 p3 p4 p5 h0 n0) 2 41 18 #[oJ q0, oS, oJ q1, oS, oJ q2, oS, oI p3, oI p4, oI p5, oJ mn, oS, oU, oU, oU, oU, oU, oU, oU, oU, oU, oU, oU, oU, oU, oU, oU, oU, oU, oU, oU, oU, oU, oU, oU, oU, oU, oU, oU, oU, oU] [(.int (lcmpW q2 (0 : Int64)))]
    by_cases c18_195 : q2 < (0 : Int64)
    · skip
      refine own_st (fun _ k => XS.ifYes X0.here hx rfl (pc0 := 18) (pc' := 26) rfl (hb hby at_18) rfl ((if0 _ _).trans (tlt ((lw_lt _ _).mpr c18_195)).1) (by decide) (by decide) k) ?_
      show own_Go X0 (Q0 Z q0 q1 q2 p3 p4 p5 h0 n0) 2 41 26 #[oJ q0, oS, oJ q1, oS, oJ q2, oS, oI p3, oI p4, oI p5, oJ mn, oS, oU, oU, oU, oU, oU, oU, oU, oU, oU, oU, oU, oU, oU, oU, oU, oU, oU, oU, oU, oU, oU, oU, oU, oU, oU, oU, oU, oU, oU] []
      refine own_st (fun _ k => XS.lload X0.here hx rfl (hb hby at_26) rfl k) ?_
      show own_Go X0 (Q0 Z q0 q1 q2 p3 p4 p5 h0 n0) 2 41 28 #[oJ q0, oS, oJ q1, oS, oJ q2, oS, oI p3, oI p4, oI p5, oJ mn, oS, oU, oU, oU, oU, oU, oU, oU, oU, oU, oU, oU, oU, oU, oU, oU, oU, oU, oU, oU, oU, oU, oU, oU, oU, oU, oU, oU, oU, oU] [(.long q2)]
      refine own_st (fun t k => X0.ldc2Long hx hown (mvT hZ (hw _ (List.mem_of_getElem? (i := 0) rfl))) (g := (mkF m 28 #[oJ q0, oS, oJ q1, oS, oJ q2, oS, oI p3, oI p4, oI p5, oJ mn, oS, oU, oU, oU, oU, oU, oU, oU, oU, oU, oU, oU, oU, oU, oU, oU, oU, oU, oU, oU, oU, oU, oU, oU, oU, oU, oU, oU, oU, oU] [(.long q2)])) rfl (hb hby at_28) t k) ?_
      show own_Go X0 (Q0 Z q0 q1 q2 p3 p4 p5 h0 n0) 2 41 31 #[oJ q0, oS, oJ q1, oS, oJ q2, oS, oI p3, oI p4, oI p5, oJ mn, oS, oU, oU, oU, oU, oU, oU, oU, oU, oU, oU, oU, oU, oU, oU, oU, oU, oU, oU, oU, oU, oU, oU, oU, oU, oU, oU, oU, oU, oU] [(.long (-1 : Int64)), (.long q2)]
      refine own_st (fun _ k => XS.lxor X0.here hx rfl (hb hby at_31) rfl k) ?_
      show own_Go X0 (Q0 Z q0 q1 q2 p3 p4 p5 h0 n0) 2 41 32 #[oJ q0, oS, oJ q1, oS, oJ q2, oS, oI p3, oI p4, oI p5, oJ mn, oS, oU, oU, oU, oU, oU, oU, oU, oU, oU, oU, oU, oU, oU, oU, oU, oU, oU, oU, oU, oU, oU, oU, oU, oU, oU, oU, oU, oU, oU] [(.long (q2 ^^^ (-1 : Int64)))]
      exact J32 _ (own_mx2 c18_195)
    · skip
      refine own_st (fun _ k => XS.ifNo X0.here hx rfl (hb hby at_18) rfl ((if0 _ _).trans (flt (fun q => c18_195 ((lw_lt _ _).mp q))).1) k) ?_
      show own_Go X0 (Q0 Z q0 q1 q2 p3 p4 p5 h0 n0) 2 41 21 #[oJ q0, oS, oJ q1, oS, oJ q2, oS, oI p3, oI p4, oI p5, oJ mn, oS, oU, oU, oU, oU, oU, oU, oU, oU, oU, oU, oU, oU, oU, oU, oU, oU, oU, oU, oU, oU, oU, oU, oU, oU, oU, oU, oU, oU, oU] []
      refine own_st (fun _ k => XS.lload X0.here hx rfl (hb hby at_21) rfl k) ?_
      show own_Go X0 (Q0 Z q0 q1 q2 p3 p4 p5 h0 n0) 2 41 23 #[oJ q0, oS, oJ q1, oS, oJ q2, oS, oI p3, oI p4, oI p5, oJ mn, oS, oU, oU, oU, oU, oU, oU, oU, oU, oU, oU, oU, oU, oU, oU, oU, oU, oU, oU, oU, oU, oU, oU, oU, oU, oU, oU, oU, oU, oU] [(.long q2)]
      refine own_st (fun _ k => XS.goto X0.here hx rfl (pc0 := 23) (pc' := 32) rfl (hb hby at_23) (by decide) (by decide) k) ?_
      show own_Go X0 (Q0 Z q0 q1 q2 p3 p4 p5 h0 n0) 2 41 32 #[oJ q0, oS, oJ q1, oS, oJ q2, oS, oI p3, oI p4, oI p5, oJ mn, oS, oU, oU, oU, oU, oU, oU, oU, oU, oU, oU, oU, oU, oU, oU, oU, oU, oU, oU, oU, oU, oU, oU, oU, oU, oU, oU, oU, oU, oU] [(.long q2)]
      exact J32 _ (own_mx1 c18_195)
  refine own_st (fun _ k => XS.lloadN X0.here hx rfl (hb hby at_0) rfl k) ?_
  show own_Go X0 (Q0 Z q0 q1 q2 p3 p4 p5 h0 n0) 2 41 1 #[oJ q0, oS, oJ q1, oS, oJ q2, oS, oI p3, oI p4, oI p5, oU, oU, oU, oU, oU, oU, oU, oU, oU, oU, oU, oU, oU, oU, oU, oU, oU, oU, oU, oU, oU, oU, oU, oU, oU, oU, oU, oU, oU, oU, oU] [(.long q1)]
  refine own_st (fun _ k => XS.lconst X0.here hx rfl (hb hby at_1) k) ?_
  show own_Go X0 (Q0 Z q0 q1 q2 p3 p4 p5 h0 n0) 2 41 2 #[oJ q0, oS, oJ q1, oS, oJ q2, oS, oI p3, oI p4, oI p5, oU, oU, oU, oU, oU, oU, oU, oU, oU, oU, oU, oU, oU, oU, oU, oU, oU, oU, oU, oU, oU, oU, oU, oU, oU, oU, oU, oU, oU, oU, oU] [(.long (0 : Int64)), (.long q1)]
  refine own_st (fun _ k => XS.lcmp X0.here hx rfl (hb hby at_2) rfl k) ?_
  show own_Go X0 (Q0 Z q0 q1 q2 p3 p4 p5 h0 n0) 2 41 3 #[oJ q0, oS, oJ q1, oS, oJ q2, oS, oI p3, oI p4, oI p5, oU, oU, oU, oU, oU, oU, oU, oU, oU, oU, oU, oU, oU, oU, oU, oU, oU, oU, oU, oU, oU, oU, oU, oU, oU, oU, oU, oU, oU, oU, oU] [(.int (lcmpW q1 (0 : Int64)))]
  by_cases c3_196 : q1 < (0 : Int64)
  · skip
    refine own_st (fun _ k => XS.ifNo X0.here hx rfl (hb hby at_3) rfl ((if0 _ _).trans (tlt ((lw_lt _ _).mpr c3_196)).2.1) k) ?_
    show own_Go X0 (Q0 Z q0 q1 q2 p3 p4 p5 h0 n0) 2 41 6 #[oJ q0, oS, oJ q1, oS, oJ q2, oS, oI p3, oI p4, oI p5, oU, oU, oU, oU, oU, oU, oU, oU, oU, oU, oU, oU, oU, oU, oU, oU, oU, oU, oU, oU, oU, oU, oU, oU, oU, oU, oU, oU, oU, oU, oU] []
    refine own_st (fun _ k => XS.lloadN X0.here hx rfl (hb hby at_6) rfl k) ?_
    show own_Go X0 (Q0 Z q0 q1 q2 p3 p4 p5 h0 n0) 2 41 7 #[oJ q0, oS, oJ q1, oS, oJ q2, oS, oI p3, oI p4, oI p5, oU, oU, oU, oU, oU, oU, oU, oU, oU, oU, oU, oU, oU, oU, oU, oU, oU, oU, oU, oU, oU, oU, oU, oU, oU, oU, oU, oU, oU, oU, oU] [(.long q1)]
    refine own_st (fun _ k => XS.goto X0.here hx rfl (pc0 := 7) (pc' := 12) rfl (hb hby at_7) (by decide) (by decide) k) ?_
    show own_Go X0 (Q0 Z q0 q1 q2 p3 p4 p5 h0 n0) 2 41 12 #[oJ q0, oS, oJ q1, oS, oJ q2, oS, oI p3, oI p4, oI p5, oU, oU, oU, oU, oU, oU, oU, oU, oU, oU, oU, oU, oU, oU, oU, oU, oU, oU, oU, oU, oU, oU, oU, oU, oU, oU, oU, oU, oU, oU, oU] [(.long q1)]
    exact J12 _ (own_mn1 c3_196)
  · skip
    refine own_st (fun _ k => XS.ifYes X0.here hx rfl (pc0 := 3) (pc' := 10) rfl (hb hby at_3) rfl ((if0 _ _).trans (flt (fun q => c3_196 ((lw_lt _ _).mp q))).2.1) (by decide) (by decide) k) ?_
    show own_Go X0 (Q0 Z q0 q1 q2 p3 p4 p5 h0 n0) 2 41 10 #[oJ q0, oS, oJ q1, oS, oJ q2, oS, oI p3, oI p4, oI p5, oU, oU, oU, oU, oU, oU, oU, oU, oU, oU, oU, oU, oU, oU, oU, oU, oU, oU, oU, oU, oU, oU, oU, oU, oU, oU, oU, oU, oU, oU, oU] []
    refine own_st (fun _ k => XS.lloadN X0.here hx rfl (hb hby at_10) rfl k) ?_
    show own_Go X0 (Q0 Z q0 q1 q2 p3 p4 p5 h0 n0) 2 41 11 #[oJ q0, oS, oJ q1, oS, oJ q2, oS, oI p3, oI p4, oI p5, oU, oU, oU, oU, oU, oU, oU, oU, oU, oU, oU, oU, oU, oU, oU, oU, oU, oU, oU, oU, oU, oU, oU, oU, oU, oU, oU, oU, oU, oU, oU] [(.long q1)]
    refine own_st (fun _ k => XS.lneg X0.here hx rfl (hb hby at_11) rfl k) ?_
    show own_Go X0 (Q0 Z q0 q1 q2 p3 p4 p5 h0 n0) 2 41 12 #[oJ q0, oS, oJ q1, oS, oJ q2, oS, oI p3, oI p4, oI p5, oU, oU, oU, oU, oU, oU, oU, oU, oU, oU, oU, oU, oU, oU, oU, oU, oU, oU, oU, oU, oU, oU, oU, oU, oU, oU, oU, oU, oU, oU, oU] [(.long (-q1))]
    exact J12 _ (own_mn2 c3_196)
set_option maxRecDepth 65536 in
set_option maxHeartbeats 40000000 in
theorem comes_1 {Post : Tables → Env → Array Value → State → Outcome → State → Prop} (hpost : ∀ tb e args s v u, (limb_1_1.after args s (.returned v) u = true ∧ limb_1_2.after args s (.returned v) u = true ∧ True) → FrameEnd s (.returned v) u (Jvm.fieldLocs frame_1_writes args s ++ Jvm.arrayLocs frame_1_arrays args s ++ Jvm.staticLocs frame_1_statics s) 16 192 → Post tb e args s (.returned v) u) :
    ArmFor flags0 classFile x code maxLocals ret World_1 tables_1 room_1 Calls_1 rest_1 Pre_1 Post := by
  intro l hfl _ _ p e ha hc hk s m args below hf hA hF happ hP
  obtain ⟨hcalls, hrest, hpre⟩ := hP
  obtain ⟨-, -, -, hnamed, -, -, -, hat⟩ := (Spec.applies_iff hf).mp happ
  obtain ⟨hg, hn⟩ := and_e (Cond.before_iff.mp (show (Jvm.Cond.and given_1 narrow_1).before args s = true from hpre))
  obtain ⟨g1, g2⟩ := and_e hg
  obtain ⟨g3, g4⟩ := and_e g2
  obtain ⟨g5, g6⟩ := and_e g4
  obtain ⟨g7, g8⟩ := and_e g6
  obtain ⟨g9, g10⟩ := and_e g8
  obtain ⟨g11, g12⟩ := and_e g10
  obtain ⟨w0, w1, w2, w3, w4, w5, rfl⟩ : ∃ w0 w1 w2 w3 w4 w5 : Value, args = #[w0, w1, w2, w3, w4, w5] := by
    have hs : args.size = 6 := by simpa [Cond.value, given_1] using g1
    obtain ⟨L⟩ := args
    match L, hs with
    | [w0, w1, w2, w3, w4, w5], _ => exact ⟨w0, w1, w2, w3, w4, w5, rfl⟩
  have hw := fun d (hd : d ∈ tables_1) => atoms_spec (ws := Jvm.Cond.code x code maxLocals ret :: tables_1) hat d (List.mem_cons_of_mem _ hd)
  obtain ⟨i0, ei0⟩ := isL_v g3
  obtain rfl : w0 = (.long i0) := Option.some.inj ei0
  obtain ⟨i1, ei1⟩ := isL_v g5
  obtain rfl : w1 = (.long i1) := Option.some.inj ei1
  obtain ⟨i2, ei2⟩ := isL_v g7
  obtain rfl : w2 = (.long i2) := Option.some.inj ei2
  obtain ⟨i3, ei3⟩ := is_v g9
  obtain rfl : w3 = (.int i3) := Option.some.inj ei3
  obtain ⟨i4, ei4⟩ := is_v g11
  obtain rfl : w4 = (.int i4) := Option.some.inj ei4
  obtain ⟨i5, ei5⟩ := is_v g12
  obtain rfl : w5 = (.int i5) := Option.some.inj ei5
  obtain ⟨n, o, h1, h2, h3, _, L, rfl, ⟨rfl, N⟩, hq⟩ := rm0 l s _ hw tables_1 i0 i1 i2 i3 i4 i5 s.heap s.heap.size (Nat.le_refl _) p e ha hc hk s m _ below hf ((Spec.applies_iff_loose hf).mp happ).1 ⟨rfl, State.Warmed39.refl s, rfl⟩ trivial
  refine ⟨n, _, h1, h2, h3, hpost _ _ _ _ _ _ ⟨Cond.after_iff.mpr rfl, Cond.after_iff.mpr (eq_i res_at (Term.int_eval (1)) rfl), trivial⟩ ⟨hq.1, hq.2.1, (hq.2.2.sift fun y hy => Or.inr (N y hy)).mono (by decide) (by decide)⟩⟩
theorem main_1_1 : Claimed_1_1 := comes_1 fun _ _ _ _ _ _ h hF => ⟨h.1, hF⟩
theorem main_1_2 : Claimed_1_2 := comes_1 fun _ _ _ _ _ _ h hF => ⟨h.2.1, hF⟩
end Jvm.Pilot.@@N@@
namespace Jvm.Pilot.@@N@@
open Jvm Jvm.ClassFile Sem Op Lib Jvm.Free Jvm.Stand Jvm.Pilot.@@N@@.Jvm.D
/-! MADE BY PROGRAM (witnessworld.py) out of the Statement's table words and the real class files: 11 classes; the members and pool entries that the words name. The judged class is class 1, her method 1. -/
namespace start1
open Jvm.ClassFile
def u (s : String) : CpInfo := .utf8 (stringToUtf16 s)
/-- a pool by its gaps: so many unusable entries, then the entry; so many at the end -/
def gap : Nat → List CpInfo → List CpInfo
  | 0, r => r
  | n + 1, r => .unusable :: gap n r
def poolList (es : List (Nat × CpInfo)) (last : Nat) : List CpInfo := es.foldr (fun e r => gap e.1 (e.2 :: r)) (gap last [])
def pool (es : List (Nat × CpInfo)) (last : Nat) : Array CpInfo := ⟨poolList es last⟩
def fileOf (pool : Array CpInfo) (this : Nat) (attrs : Array Attribute := #[]) (ms : Array MethodInfo := #[]) (fl : Nat := 33) (sup : Nat := 0) (ifs : Array Nat := #[]) (fds : Array FieldInfo := #[]) : ClassFile where
  minorVersion := 0
  majorVersion := 65
  constantPool := pool
  accessFlags := fl
  thisClass := this
  superClass := sup
  interfaces := ifs
  fields := fds
  methods := ms
  attributes := attrs
def plain (name : String) (sup : Option ClassId) : Class where
  name := name
  kind := .ordinary
  loader := none
  accessFlags := 33
  super := sup
  interfaces := #[]
  cf := none
  fields := #[]
  methods := #[]
  instanceTypes := #[]
  staticTypes := #[]
  resolved := #[]
  callSites := []
  init := .initialized
  statics := none
  mirror := none

def pool0 : Array CpInfo := pool [(5, u "<init>"), (0, u "()V"), (1, .class_ 10), (1, u "java/lang/Object")] 113

def k0m0 : Method := { name := "<init>", desc := "()V", sig := { parameters := [], returnType := none }, accessFlags := 1, code := none }
/-- java/lang/Object -/
def k0 : Class := { plain "java/lang/Object" none with
  accessFlags := 33
  interfaces := #[]
  cf := some (fileOf pool0 8 #[] #[{ accessFlags := 1, nameIndex := 5, descriptorIndex := 6, attributes := #[] }] 33 0 #[] #[])
  fields := #[]
  methods := #[k0m0]
  instanceTypes := #[]
  staticTypes := #[]
  resolved := Array.replicate 124 none
  statics := none }

def pool1 : Array CpInfo := pool [(2, .class_ 4), (1, u "java/lang/Object"), (0, u "<init>"), (0, u "()V"), (0, .long 18446744073709551615), (1, .long 10), (1, .long 100), (1, .long 1000), (1, .long 10000), (1, .long 100000), (1, .long 1000000), (1, .long 10000000), (1, .long 100000000), (1, .long 1000000000), (1, .long 10000000000), (1, .long 100000000000), (1, .long 1000000000000), (1, .long 10000000000000), (1, .long 100000000000000), (1, .long 1000000000000000), (1, .long 10000000000000000), (1, .long 100000000000000000), (1, .long 1000000000000000000), (1, .methodref 46 47), (0, .class_ 48), (0, .nameAndType 49 50), (0, u "com/example/wide_berth/wideberth/postgres/LiteralsIsIntegerPinLaw"), (0, u "put"), (0, u "([BIIIJ[J)V"), (0, .integer 2147483647), (2, .long 9223372036854775808), (1, .methodref 57 58), (0, .class_ 59), (0, .nameAndType 60 61), (0, u "com/example/wide_berth/wideberth/postgres/Literals"), (0, u "isInteger"), (0, u "([BIJJ)Z"), (0, .long 48), (3, u "law"), (0, u "(JJJIII)Z")] 7

def k1m0 : Method := { name := "<init>", desc := "()V", sig := { parameters := [], returnType := none }, accessFlags := 2, code := none }
def k1c1 : Code := { maxStack := 7, maxLocals := 40, code := code, exceptionTable := #[], attributes := #[] }
def k1m1 : Method := { name := "law", desc := "(JJJIII)Z", sig := { parameters := [.long, .long, .long, .int, .int, .int], returnType := some .boolean }, accessFlags := 9, code := some k1c1 }
def k1c2 : Code := { maxStack := 8, maxLocals := 7, code := method_3_code, exceptionTable := #[], attributes := #[] }
def k1m2 : Method := { name := "put", desc := "([BIIIJ[J)V", sig := { parameters := [(.array .byte), .int, .int, .int, .long, (.array .long)], returnType := none }, accessFlags := 10, code := some k1c2 }
/-- com/example/wide_berth/wideberth/postgres/LiteralsIsIntegerPinLaw -/
def k1 : Class := { plain "com/example/wide_berth/wideberth/postgres/LiteralsIsIntegerPinLaw" (some 0) with
  accessFlags := 49
  interfaces := #[]
  cf := some (fileOf pool1 46 #[] #[{ accessFlags := 2, nameIndex := 5, descriptorIndex := 6, attributes := #[] }, { accessFlags := 9, nameIndex := 66, descriptorIndex := 67, attributes := #[] }, { accessFlags := 10, nameIndex := 49, descriptorIndex := 50, attributes := #[] }] 49 2 #[] #[])
  fields := #[]
  methods := #[k1m0, k1m1, k1m2]
  instanceTypes := #[]
  staticTypes := #[]
  resolved := Array.replicate 75 none
  statics := none }

def pool2 : Array CpInfo := pool [(2, .class_ 4), (1, u "java/lang/Object"), (0, u "<init>"), (0, u "()V"), (2, .long 9223372036854775808), (1, .long 10), (2, .class_ 16), (1, u "com/example/wide_berth/wideberth/postgres/Literals"), (29, u "DOUBLE_INFINITE"), (0, u "Lcom/example/wide_berth/wideberth/postgres/Literals$Bound;"), (2, u "REAL_INFINITE"), (2, u "DOUBLE_ZERO"), (2, u "REAL_ZERO"), (68, u "DAYS_IN_MONTH"), (0, u "[I"), (4, .class_ 133), (1, u "com/example/wide_berth/wideberth/postgres/Literals$Bound"), (1, u "J"), (15, u "TWO"), (0, u "Ljava/math/BigInteger;"), (9, u "FIVE"), (19, u "DATE_LENGTH"), (0, u "I"), (2, u "DATETIME_LENGTH"), (1, u "DAYS_TO_1970"), (0, u "SECONDS_A_DAY"), (0, u "MAX_EXPONENT"), (0, u "DUMPED_FLOAT_DIGITS"), (1, u "ROUND_TRIP_FLOAT_DIGITS"), (1, u "ONE_FLOAT_SPAN_DECADE"), (4, u "isInteger"), (0, u "([BIJJ)Z")] 21

def k2m0 : Method := { name := "<init>", desc := "()V", sig := { parameters := [], returnType := none }, accessFlags := 2, code := none }
def k2c1 : Code := { maxStack := 6, maxLocals := 12, code := prog_64_method_3_code, exceptionTable := #[], attributes := #[] }
def k2m1 : Method := { name := "isInteger", desc := "([BIJJ)Z", sig := { parameters := [(.array .byte), .int, .long, .long], returnType := some .boolean }, accessFlags := 8, code := some k2c1 }
/-- com/example/wide_berth/wideberth/postgres/Literals -/
def k2 : Class := { plain "com/example/wide_berth/wideberth/postgres/Literals" (some 0) with
  accessFlags := 48
  interfaces := #[]
  cf := some (fileOf pool2 14 #[.nestMembers #[131]] #[{ accessFlags := 2, nameIndex := 5, descriptorIndex := 6, attributes := #[] }, { accessFlags := 8, nameIndex := 200, descriptorIndex := 201, attributes := #[] }] 48 2 #[] #[{ accessFlags := 26, nameIndex := 151, descriptorIndex := 152, attributes := #[] }, { accessFlags := 26, nameIndex := 162, descriptorIndex := 152, attributes := #[] }, { accessFlags := 26, nameIndex := 125, descriptorIndex := 126, attributes := #[] }, { accessFlags := 26, nameIndex := 182, descriptorIndex := 183, attributes := #[] }, { accessFlags := 26, nameIndex := 186, descriptorIndex := 183, attributes := #[] }, { accessFlags := 26, nameIndex := 188, descriptorIndex := 135, attributes := #[] }, { accessFlags := 26, nameIndex := 189, descriptorIndex := 135, attributes := #[] }, { accessFlags := 26, nameIndex := 50, descriptorIndex := 47, attributes := #[] }, { accessFlags := 26, nameIndex := 56, descriptorIndex := 47, attributes := #[] }, { accessFlags := 26, nameIndex := 46, descriptorIndex := 47, attributes := #[] }, { accessFlags := 26, nameIndex := 53, descriptorIndex := 47, attributes := #[] }, { accessFlags := 26, nameIndex := 190, descriptorIndex := 135, attributes := #[] }, { accessFlags := 26, nameIndex := 191, descriptorIndex := 183, attributes := #[] }, { accessFlags := 26, nameIndex := 193, descriptorIndex := 183, attributes := #[] }, { accessFlags := 26, nameIndex := 195, descriptorIndex := 135, attributes := #[] }])
  fields := #[{ name := "TWO", type := (.object "java/math/BigInteger"), accessFlags := 26, slot := 0, constantValue := 0 }, { name := "FIVE", type := (.object "java/math/BigInteger"), accessFlags := 26, slot := 1, constantValue := 0 }, { name := "DAYS_IN_MONTH", type := (.array .int), accessFlags := 26, slot := 2, constantValue := 0 }, { name := "DATE_LENGTH", type := .int, accessFlags := 26, slot := 3, constantValue := 0 }, { name := "DATETIME_LENGTH", type := .int, accessFlags := 26, slot := 4, constantValue := 0 }, { name := "DAYS_TO_1970", type := .long, accessFlags := 26, slot := 5, constantValue := 0 }, { name := "SECONDS_A_DAY", type := .long, accessFlags := 26, slot := 6, constantValue := 0 }, { name := "REAL_INFINITE", type := (.object "com/example/wide_berth/wideberth/postgres/Literals$Bound"), accessFlags := 26, slot := 7, constantValue := 0 }, { name := "REAL_ZERO", type := (.object "com/example/wide_berth/wideberth/postgres/Literals$Bound"), accessFlags := 26, slot := 8, constantValue := 0 }, { name := "DOUBLE_INFINITE", type := (.object "com/example/wide_berth/wideberth/postgres/Literals$Bound"), accessFlags := 26, slot := 9, constantValue := 0 }, { name := "DOUBLE_ZERO", type := (.object "com/example/wide_berth/wideberth/postgres/Literals$Bound"), accessFlags := 26, slot := 10, constantValue := 0 }, { name := "MAX_EXPONENT", type := .long, accessFlags := 26, slot := 11, constantValue := 0 }, { name := "DUMPED_FLOAT_DIGITS", type := .int, accessFlags := 26, slot := 12, constantValue := 0 }, { name := "ROUND_TRIP_FLOAT_DIGITS", type := .int, accessFlags := 26, slot := 13, constantValue := 0 }, { name := "ONE_FLOAT_SPAN_DECADE", type := .long, accessFlags := 26, slot := 14, constantValue := 0 }]
  methods := #[k2m0, k2m1]
  instanceTypes := #[]
  staticTypes := #[(.object "java/math/BigInteger"), (.object "java/math/BigInteger"), (.array .int), .int, .int, .long, .long, (.object "com/example/wide_berth/wideberth/postgres/Literals$Bound"), (.object "com/example/wide_berth/wideberth/postgres/Literals$Bound"), (.object "com/example/wide_berth/wideberth/postgres/Literals$Bound"), (.object "com/example/wide_berth/wideberth/postgres/Literals$Bound"), .long, .int, .int, .long]
  resolved := Array.replicate 223 none
  statics := none }

def pool3 : Array CpInfo := pool [(1, u "java/lang/Cloneable"), (0, .class_ 1), (0, u "java/lang/Object"), (0, .class_ 3)] 3

/-- java/lang/Cloneable -/
def k3 : Class := { plain "java/lang/Cloneable" (some 0) with
  accessFlags := 1537
  interfaces := #[]
  cf := some (fileOf pool3 2 #[] #[] 1537 4 #[] #[])
  fields := #[]
  methods := #[]
  instanceTypes := #[]
  staticTypes := #[]
  resolved := Array.replicate 8 none
  statics := none }

def pool4 : Array CpInfo := pool [(1, u "java/io/Serializable"), (0, .class_ 1), (0, u "java/lang/Object"), (0, .class_ 3)] 3

/-- java/io/Serializable -/
def k4 : Class := { plain "java/io/Serializable" (some 0) with
  accessFlags := 1537
  interfaces := #[]
  cf := some (fileOf pool4 2 #[] #[] 1537 4 #[] #[])
  fields := #[]
  methods := #[]
  instanceTypes := #[]
  staticTypes := #[]
  resolved := Array.replicate 8 none
  statics := none }

/-- the primitive byte -/
def k5 : Class := { plain "byte" none with kind := .primitive 'B', accessFlags := 0x411 }
/-- [B -/
def k6 : Class := { plain "[B" (some 0) with kind := .array 5 .byte, interfaces := #[3, 4], accessFlags := 1041 }

/-- the primitive int -/
def k7 : Class := { plain "int" none with kind := .primitive 'I', accessFlags := 0x411 }
/-- [I -/
def k8 : Class := { plain "[I" (some 0) with kind := .array 7 .int, interfaces := #[3, 4], accessFlags := 1041 }

/-- the primitive long -/
def k9 : Class := { plain "long" none with kind := .primitive 'J', accessFlags := 0x411 }
/-- [J -/
def k10 : Class := { plain "[J" (some 0) with kind := .array 9 .long, interfaces := #[3, 4], accessFlags := 1041 }

def heap : Heap := #[]
def classes : Array Class := #[k0, k1, k2, k3, k4, k5, k6, k7, k8, k9, k10]
def interned : List (Array UInt16 × Addr) := []
def slotsUsed : Nat := 0
def theMethod : MethodId := ⟨1, 1⟩
def args0 : Array Value := #[.long 5, .long 7, .long 9, .int 11, .int 13, .int 15]
def aboutOver (below : List Frame) : State where
  vm := { classes := classes, interned := interned.toArray }
  heap := heap
  slotsUsed := slotsUsed
  threads := #[{ frames := .invoking theMethod args0 :: below }]
def below0 : List Frame := [.native { method := ⟨0, 0⟩, args := #[] }]
def about1 : State := aboutOver below0
def p0 : Program := .bare "" "" ""
def e0 : Env := launch0.env 0 0 0
theorem w_frames : about1.frames = Frame.invoking theMethod args0 :: below0 := rfl
set_option maxRecDepth 65536 in
theorem w_args : argsFit about1.vm theMethod args0 = true := by decide +kernel
set_option maxRecDepth 65536 in
theorem w_heap : heapFits about1 = true := by decide +kernel
set_option maxRecDepth 65536 in
theorem w_runnable : about1.curStatus? = some .runnable := by decide +kernel
set_option maxRecDepth 65536 in
theorem w_alone : about1.alone = true := by decide +kernel
set_option maxRecDepth 65536 in
theorem w_named : about1.methodNamed? x = some theMethod := by decide +kernel
set_option maxRecDepth 65536 in
theorem w_hears : about1.hears theMethod below0 = true := by decide +kernel
set_option maxRecDepth 65536 in
theorem w_ripe : about1.ripe theMethod args0 below0 = true := by decide +kernel
theorem w_running : about1.status = .running := rfl
set_option maxRecDepth 65536 in
theorem w_room : about1.hasRoom e0.platform room_1 = true :=
  launch0.hasRoom_least _ room_1 (by decide +kernel) (by decide +kernel) (by decide +kernel) (by decide +kernel) (by decide +kernel) (by decide +kernel)
theorem allAtoms_all (ts : List Jvm.Cond) (a : Array Jvm.Value) (st : Jvm.State) : (allAtoms ts).before a st = ts.all (fun c => c.before a st) := by
  induction ts with
  | nil => rfl
  | cons c t ih =>
    show (Jvm.Cond.and c (allAtoms t)).before a st = _
    rw [Jvm.Cond.before_and, ih, List.all_cons]
def words1 : List Jvm.Cond := Jvm.Cond.code x code maxLocals ret :: tables_1
/-- a 'code' word, met by the world's own term for the bytes: nothing is compared byte by byte -/
theorem code_word {y : MethodName} {bytes : ByteArray} {mx : Nat} {rt : Option FieldType} {a : Array Value} {s : State} {m : MethodId} {meth : Method} {c : Code} (h1 : s.methodNamed? y = some m) (h2 : s.vm.method? m = some meth) (h3 : meth.code = some c) (h4 : c.code = bytes)
    (h5 : (c.maxLocals == mx && c.exceptionTable.isEmpty && decide (c.maxStack ≤ mostOperands) && decide (meth.sig.returnType = rt) && !meth.locks && decide (parseMethodDescriptor y.desc = some meth.sig)) = true) : (Jvm.Cond.code y bytes mx rt).before a s = true := by
  simp only [Bool.and_eq_true, beq_iff_eq, Bool.not_eq_true', decide_eq_true_eq] at h5
  obtain ⟨⟨⟨⟨⟨g1, g2⟩, g3⟩, g4⟩, g5⟩, g6⟩ := h5
  simp [Cond.before, Cond.holds, Cond.value, h1, h2, h3, h4, g1, g2, g3, g4, g5, g6]
def isCode : Jvm.Cond → Bool
  | .code _ _ _ _ => true
  | _ => false
theorem all_split {L : List Jvm.Cond} {P : Jvm.Cond → Bool} (h1 : L.all (fun c => isCode c || P c) = true) (h2 : ∀ c ∈ L.filter isCode, P c = true) : L.all P = true := by
  refine List.all_eq_true.mpr fun c hc => ?_
  have h := List.all_eq_true.mp h1 c hc
  rcases Bool.eq_false_or_eq_true (isCode c) with hi | hi
  · exact h2 c (List.mem_filter.mpr ⟨hc, hi⟩)
  · simpa [hi] using h
set_option maxRecDepth 65536 in
theorem w_c0 : (Jvm.Cond.code x code maxLocals ret).before args0 about1 = true := code_word (m := ⟨1, 1⟩) (meth := k1m1) (c := k1c1) (by decide +kernel) rfl rfl rfl (by decide +kernel)
set_option maxRecDepth 65536 in
theorem w_c1 : (Jvm.Cond.code ({ cls := "com/example/wide_berth/wideberth/postgres/LiteralsIsIntegerPinLaw", name := "put", desc := "([BIIIJ[J)V" } : Jvm.MethodName) method_3_code (7 : Nat) (Option.none : Option Jvm.ClassFile.FieldType)).before args0 about1 = true := code_word (m := ⟨1, 2⟩) (meth := k1m2) (c := k1c2) (by decide +kernel) rfl rfl rfl (by decide +kernel)
set_option maxRecDepth 65536 in
theorem w_c2 : (Jvm.Cond.code ({ cls := "com/example/wide_berth/wideberth/postgres/Literals", name := "isInteger", desc := "([BIJJ)Z" } : Jvm.MethodName) prog_64_method_3_code (12 : Nat) (Option.some Jvm.ClassFile.FieldType.boolean)).before args0 about1 = true := code_word (m := ⟨2, 1⟩) (meth := k2m1) (c := k2c1) (by decide +kernel) rfl rfl rfl (by decide +kernel)
def codes1 : List Jvm.Cond := [Jvm.Cond.code x code maxLocals ret, Jvm.Cond.code ({ cls := "com/example/wide_berth/wideberth/postgres/LiteralsIsIntegerPinLaw", name := "put", desc := "([BIIIJ[J)V" } : Jvm.MethodName) method_3_code (7 : Nat) (Option.none : Option Jvm.ClassFile.FieldType), Jvm.Cond.code ({ cls := "com/example/wide_berth/wideberth/postgres/Literals", name := "isInteger", desc := "([BIJJ)Z" } : Jvm.MethodName) prog_64_method_3_code (12 : Nat) (Option.some Jvm.ClassFile.FieldType.boolean)]
set_option maxRecDepth 65536 in
theorem codes_eq : words1.filter isCode = codes1 := rfl
theorem w_codes : ∀ c ∈ words1.filter isCode, c.before args0 about1 = true := by
  rw [codes_eq]
  intro c hc
  simp only [codes1, List.mem_cons, List.not_mem_nil, or_false] at hc
  rcases hc with rfl | rfl | rfl
  · exact w_c0
  · exact w_c1
  · exact w_c2
set_option maxRecDepth 65536 in
theorem w_t1 : (words1.take 24).all (fun c => isCode c || c.before args0 about1) = true := by decide +kernel
set_option maxRecDepth 65536 in
theorem w_t2 : (words1.drop 24).all (fun c => isCode c || c.before args0 about1) = true := by decide +kernel
theorem w_tables : (allAtoms (Jvm.Cond.code x code maxLocals ret :: tables_1)).before args0 about1 = true := by
  rw [allAtoms_all]
  show words1.all (fun c => c.before args0 about1) = true
  refine all_split ?_ w_codes
  rw [← List.take_append_drop 24 words1, List.all_append, w_t1, w_t2]
  rfl
set_option maxRecDepth 65536 in
theorem w_case : (Jvm.Cond.and given_1 narrow_1).before args0 about1 = true := by decide +kernel
theorem w_applies : (headSpec (Jvm.Cond.code x code maxLocals ret :: tables_1) room_1).applies x e0.platform about1 = true :=
  (Spec.applies_iff w_frames).mpr ⟨w_running, w_runnable, w_alone, w_named, w_hears, w_ripe, w_room, w_tables⟩
theorem atStart : AtStart classFile x code maxLocals ret World_1 tables_1 room_1 Calls_1 rest_1 Pre_1 launch0 p0 e0 about1 theMethod args0 below0 :=
  ⟨lists_1, trivial, launch0.admits_env _ _ _, launch0.least_env, fairChoices_fair.cas, fairChoices_fair.clock, w_frames, w_args, w_heap, w_applies, trivial, trivial, w_case⟩
end start1
theorem witness_1 : WitnessClaimed_1 := ⟨start1.p0, start1.e0, start1.about1, start1.theMethod, start1.args0, start1.below0, start1.atStart⟩
end Jvm.Pilot.@@N@@
