import JvmDerived
import JvmDerived.Pilot.@@N@@Statement
import JvmDerived.Pilot.@@N@@Code
set_option linter.unusedVariables false
set_option linter.unusedSimpArgs false
namespace Jvm.Pilot.@@N@@
open Jvm Jvm.ClassFile Sem Op Lib Jvm.Free Jvm.Stand Jvm.LawKit Jvm.RoadKit Bundle Jvm.Pilot.@@N@@.Jvm.D
abbrev oU : Slot := .unset
abbrev oS : Slot := .second
abbrev oN : Slot := .val .null
abbrev oI (x : Int32) : Slot := .val (.int x)
abbrev oJ (x : Int64) : Slot := .val (.long x)
abbrev oR (a : Addr) : Slot := .val (.ref a)
section Own
variable {p : Program} {l : Launch} {e : Env} {R : Room} {s : State} {m : MethodId} {args : Array Value} {below : List Frame} {meth : Method} {c : Code} {T : State} {locs : List Loc} {cells slots : Nat} {Q : Option Value → Heap → List Loc → Prop} {kc ks : Nat} {Z : State} {a0 : Array Value} {h : Heap}
/-- from the state st the body comes to its end, and Q holds there -/
def own_Fin (p : Program) (e : Env) (below : List Frame) (s : State) (Q : Option Value → Heap → List Loc → Prop) (kc ks : Nat) (st : State) : Prop :=
  ∃ s₂ o, Steps p.tables e below st s₂ ∧ s₂.status = .running ∧ Ended s₂ below o ∧ ∃ v L, o = .returned v ∧ Q v s₂.heap L ∧ FrameEnd s o s₂ L kc ks
abbrev own_Go (X : Stand p l e R s m args below meth c T locs cells slots) (Q : Option Value → Heap → List Loc → Prop) (kc ks : Nat) (pc : Nat) (Ls : Array Slot) (S : List Value) : Prop := own_Fin p e below s Q kc ks (T.setTop (mkF m pc Ls S))
theorem own_st {a b : State} (hst : ∀ t, Steps p.tables e below b t → Steps p.tables e below a t) (k : own_Fin p e below s Q kc ks b) : own_Fin p e below s Q kc ks a := by
  obtain ⟨s₂, o, h1, r⟩ := k
  exact ⟨s₂, o, hst _ h1, r⟩
theorem own_cast {g g' : JFrame} (q : g = g') (k : own_Fin p e below s Q kc ks (T.setTop g')) : own_Fin p e below s Q kc ks (T.setTop g) := q ▸ k
theorem own_end (X : Stand p l e R s m args below meth c T locs cells slots) {v : Option Value} {a : State} (hv : meth.sig.returnType = none → v = none) (hlocks : meth.locks = false) (eT : T.heap = h)
    (hs : ∀ fs, (∀ (f : JFrame) (acts : List Action), f.method = m → f.locked = none → f.entered = [] → (doReturn e (T.setTop f) acts v).1 = T.setFrames fs) → Steps p.tables e below a (T.setFrames fs))
    (hc : cells ≤ kc) (hl : slots ≤ ks) (hq : Q v h locs) : own_Fin p e below s Q kc ks a := by
  obtain ⟨fs, hr, hrun, hended, hW, hsame⟩ := X.leave hv hlocks
  exact ⟨_, _, hs fs hr, hrun, hended, _, _, rfl, by show Q v T.heap locs; rw [eT]; exact hq, ⟨_, rfl⟩, hW, hsame.mono hc hl⟩
theorem own_retV (X : Stand p l e R s m args below meth c T locs cells slots) (hx : p.tables.exec = Jvm.exec) (hret : meth.sig.returnType = none) (hlocks : meth.locks = false) (eT : T.heap = h) {pc : Nat} {Ls : Array Slot} (hd : decode c.code pc = .ok (.return_, 1)) (hc : cells ≤ kc) (hl : slots ≤ ks) (hq : Q none h locs) :
    own_Fin p e below s Q kc ks (T.setTop (mkF m pc Ls [])) := own_end X (fun _ => rfl) hlocks eT (fun _ hr => X.returnOut hx hret hd hr) hc hl hq
theorem own_retN (X : Stand p l e R s m args below meth c T locs cells slots) (hx : p.tables.exec = Jvm.exec) {t : FieldType} (hret : meth.sig.returnType = some t) (ht : t = .boolean ∨ t = .byte ∨ t = .char ∨ t = .short) (hlocks : meth.locks = false) (eT : T.heap = h) {pc : Nat} {Ls : Array Slot} {z : Int32} {rest : List Value} (hd : decode c.code pc = .ok (.ireturn, 1)) (hc : cells ≤ kc) (hl : slots ≤ ks) (hq : Q (some (.int (nar t z))) h locs) :
    own_Fin p e below s Q kc ks (T.setTop (mkF m pc Ls (.int z :: rest))) := own_end X (fun h => by rw [hret] at h; cases h) hlocks eT (fun _ hr => retN X hx hret ht hd hr) hc hl hq
theorem own_retI (X : Stand p l e R s m args below meth c T locs cells slots) (hx : p.tables.exec = Jvm.exec) (hret : meth.sig.returnType = some .int) (hlocks : meth.locks = false) (eT : T.heap = h) {pc : Nat} {Ls : Array Slot} {z : Int32} {rest : List Value} (hd : decode c.code pc = .ok (.ireturn, 1)) (hc : cells ≤ kc) (hl : slots ≤ ks) (hq : Q (some (.int z)) h locs) :
    own_Fin p e below s Q kc ks (T.setTop (mkF m pc Ls (.int z :: rest))) := own_end X (fun h => by rw [hret] at h; cases h) hlocks eT (fun _ hr => retOut X hx hret rfl (Or.inl ⟨rfl, Or.inl rfl, _, rfl⟩) hd hr) hc hl hq
theorem own_retJ (X : Stand p l e R s m args below meth c T locs cells slots) (hx : p.tables.exec = Jvm.exec) (hret : meth.sig.returnType = some .long) (hlocks : meth.locks = false) (eT : T.heap = h) {pc : Nat} {Ls : Array Slot} {z : Int64} {rest : List Value} (hd : decode c.code pc = .ok (.lreturn, 1)) (hc : cells ≤ kc) (hl : slots ≤ ks) (hq : Q (some (.long z)) h locs) :
    own_Fin p e below s Q kc ks (T.setTop (mkF m pc Ls (.long z :: rest))) := own_end X (fun h => by rw [hret] at h; cases h) hlocks eT (fun _ hr => retOut X hx hret rfl (Or.inr (Or.inl ⟨rfl, rfl, _, rfl⟩)) hd hr) hc hl hq
theorem own_retA (X : Stand p l e R s m args below meth c T locs cells slots) (hx : p.tables.exec = Jvm.exec) {t : FieldType} (hret : meth.sig.returnType = some t) (ht : t.isReference = true) (hlocks : meth.locks = false) (eT : T.heap = h) {pc : Nat} {Ls : Array Slot} {a : Addr} {rest : List Value} (hd : decode c.code pc = .ok (.areturn, 1)) (hc : cells ≤ kc) (hl : slots ≤ ks) (hq : Q (some (.ref a)) h locs) :
    own_Fin p e below s Q kc ks (T.setTop (mkF m pc Ls (.ref a :: rest))) := own_end X (fun h => by rw [hret] at h; cases h) hlocks eT (fun _ hr => retOut X hx hret (by cases t <;> first | rfl | cases ht) (Or.inr (Or.inr (Or.inr (Or.inr ⟨rfl, ht, rfl⟩)))) hd hr) hc hl hq
theorem own_nar1 : nar .boolean 1 = 1 := by decide
theorem own_nar0 : nar .boolean 0 = 0 := by decide
theorem own_lrem {g : JFrame} {target : State} (X : Stand p l e R s m args below meth c T locs cells slots) (hx : p.tables.exec = Jvm.exec) (hg : g.method = m) {x y : Int64} {rest : List Value} (hd : decode c.code g.pc = .ok (.lrem, 1)) (hs : g.stack = .long y :: .long x :: rest) (hy : y ≠ 0)
    (hr : Steps p.tables e below (T.setTop { g with pc := g.pc + 1, stack := .long (x % y) :: rest }) target) : Steps p.tables e below (T.setTop g) target := by
  have q : x - x / y * y = x % y := lrem_mod x y
  exact XS.lrem X.here hx hg hd hs hy (by rw [q]; exact hr)
/-! the calls -/
variable {y z : MethodName} {bytes : ByteArray} {maxL : Nat} {ret : Option FieldType} {rm : Room} {W : Nat} {as' : Array Value} {Qc : Option Value → Heap → List Loc → Prop} {own C : String} {index : Nat}
theorem own_callS (X : Stand p l e R s m args below meth c T locs cells slots) (hx : p.tables.exec = Jvm.exec) (hZ : Z.Warmed39 s.vm) (hown : s.vm.findClass own = some m.cls)
    (wl : (Cond.methodLink own index y).before a0 Z = true) (ws : (Cond.static y).before a0 Z = true) (wz : (Cond.initialized y.cls).before a0 Z = true) (wc : (Cond.code y bytes maxL ret).before a0 Z = true)
    (hy : y.cls ≠ "java/lang/invoke/MethodHandle" ∧ y.cls ≠ "java/lang/invoke/VarHandle")
    (hM : MetFree l y (head1 [Cond.code y bytes maxL ret] rm) (fun a U => a = as' ∧ Z.Warmed39 U.vm ∧ U.heap = h) (fun _ _ _ _ _ => True) (fun _ U o U' => ∃ v L, o = .returned v ∧ Qc v U'.heap L ∧ FrameEnd U o U' L rm.cells rm.slots))
    (hf : rm.frames + 1 ≤ R.frames) (hl : W + (maxL + 11) + rm.locals ≤ R.locals) {pc : Nat} {Ls : Array Slot} {S : List Value} (hsize : Ls.size = c.maxLocals) (argsL rest : List Value)
    (hlen : ∀ sig, parseMethodDescriptor y.desc = some sig → argsL.length = sig.parameters.length) (hS : S = argsL.reverse ++ rest) (ha : argsL.toArray = as') (hW : (rest.map fun v => v.category).sum ≤ W)
    (hd : decode c.code pc = .ok (.invokestatic index, 3)) (eT : T.heap = h) (hcl : cells + rm.cells ≤ R.cells) (hsl : slots + rm.slots ≤ R.slots)
    (k : ∀ (v : Option Value) (T' : State) (L' : List Loc) (X' : Stand p l e R s m args below meth c T' (locs ++ L') (cells + rm.cells) (slots + rm.slots)), Qc v T'.heap L' → own_Fin p e below s Q kc ks (T'.setTop (mkF m (pc + 3) Ls (v.toList ++ rest)))) :
    own_Fin p e below s Q kc ks (T.setTop (mkF m pc Ls S)) := by
  subst hS
  obtain ⟨v, _, ⟨T', L1, k1, n1⟩, -, X', ⟨L', hQ, l1, y1, z1⟩, st⟩ := Jvm.LawKit.callS X hx (y := y) hown (mvT hZ wl) (mvT hZ ws) (mvT hZ wz) (mvT hZ wc) hy (backOf (W := W) hM hZ wc wz hf hl) (g := mkF m pc Ls (argsL.reverse ++ rest)) rfl hsize (argsL := argsL) (rest := rest) hlen rfl (by show 2 * 0 + _ ≤ _; omega) hd (fun _ _ => ⟨ha, eT, hcl, hsl⟩)
  dsimp only [Pt.U, Pt.locs, Pt.cells, Pt.slots] at X' l1 y1 z1 st hQ
  subst l1 y1 z1
  exact own_st (fun t => st t) (k v T' L' X' hQ)
theorem own_callI (X : Stand p l e R s m args below meth c T locs cells slots) (hx : p.tables.exec = Jvm.exec) (hZ : Z.Warmed39 s.vm) (hown : s.vm.findClass own = some m.cls)
    (wl : (Cond.methodLink own index y).before a0 Z = true) (ws : (Cond.instanceMethod y).before a0 Z = true) (wz : (Cond.initialized y.cls).before a0 Z = true) (wc : (Cond.code y bytes maxL none).before a0 Z = true)
    (hn : y.name = "<init>") (hy : y.cls ≠ "java/lang/invoke/MethodHandle" ∧ y.cls ≠ "java/lang/invoke/VarHandle")
    (hM : MetFree l y (head1 [Cond.code y bytes maxL none] rm) (fun a U => a = as' ∧ Z.Warmed39 U.vm ∧ U.heap = h) (fun _ _ _ _ _ => True) (fun _ U o U' => ∃ v L, o = .returned v ∧ Qc v U'.heap L ∧ FrameEnd U o U' L rm.cells rm.slots))
    (hf : rm.frames + 1 ≤ R.frames) (hl : W + (maxL + 11) + rm.locals ≤ R.locals) {pc : Nat} {Ls : Array Slot} {S : List Value} (hsize : Ls.size = c.maxLocals) (a : Addr) (argsL rest : List Value)
    (hlen : ∀ sig, parseMethodDescriptor y.desc = some sig → argsL.length = sig.parameters.length) (hS : S = argsL.reverse ++ .ref a :: rest) (ha : (Value.ref a :: argsL).toArray = as') (hW : (rest.map fun v => v.category).sum ≤ W)
    (hd : decode c.code pc = .ok (.invokespecial index, 3)) (eT : T.heap = h) (hcl : cells + rm.cells ≤ R.cells) (hsl : slots + rm.slots ≤ R.slots)
    (k : ∀ (v : Option Value) (T' : State) (L' : List Loc) (X' : Stand p l e R s m args below meth c T' (locs ++ L') (cells + rm.cells) (slots + rm.slots)), Qc v T'.heap L' → own_Fin p e below s Q kc ks (T'.setTop (mkF m (pc + 3) Ls (v.toList ++ rest)))) :
    own_Fin p e below s Q kc ks (T.setTop (mkF m pc Ls S)) := by
  subst hS
  obtain ⟨v, _, ⟨T', L1, k1, n1⟩, -, X', ⟨L', hQ, l1, y1, z1⟩, st⟩ := X.specialBack hx (y := y) hn hown (mvT hZ wl) (mvT hZ ws) (mvT hZ wc) hy (backOf (W := W) hM hZ wc wz hf hl) (g := mkF m pc Ls (argsL.reverse ++ .ref a :: rest)) rfl hsize (Steps.refl _) (a := a) (argsL := argsL) (rest := rest) hlen rfl (by show 2 * 0 + _ ≤ _; omega) hd (fun _ _ => ⟨ha, eT, hcl, hsl⟩)
  dsimp only [Pt.U, Pt.locs, Pt.cells, Pt.slots] at X' l1 y1 z1 st hQ
  subst l1 y1 z1
  exact own_st (fun t => st.trans) (k v T' L' X' hQ)
theorem own_callV (X : Stand p l e R s m args below meth c T locs cells slots) (hx : p.tables.exec = Jvm.exec) (hZ : Z.Warmed39 s.vm) (hown : s.vm.findClass own = some m.cls)
    (wl : (Cond.methodLink own index y).before a0 Z = true) (wd : (Cond.declares y).before a0 Z = true) (wsel : (Cond.selects C y y).before a0 Z = true) (ws : (Cond.instanceMethod y).before a0 Z = true) (wz : (Cond.initialized y.cls).before a0 Z = true) (wc : (Cond.code y bytes maxL ret).before a0 Z = true)
    (hy : y.cls ≠ "java/lang/invoke/MethodHandle" ∧ y.cls ≠ "java/lang/invoke/VarHandle")
    (hM : MetFree l y (head1 [Cond.code y bytes maxL ret] rm) (fun a U => a = as' ∧ Z.Warmed39 U.vm ∧ U.heap = h) (fun _ _ _ _ _ => True) (fun _ U o U' => ∃ v L, o = .returned v ∧ Qc v U'.heap L ∧ FrameEnd U o U' L rm.cells rm.slots))
    (hf : rm.frames + 1 ≤ R.frames) (hl : W + (maxL + 11) + rm.locals ≤ R.locals) {pc : Nat} {Ls : Array Slot} {S : List Value} (hsize : Ls.size = c.maxLocals) (a : Addr) (argsL rest : List Value)
    (hlen : ∀ sig, parseMethodDescriptor y.desc = some sig → argsL.length = sig.parameters.length) (hS : S = argsL.reverse ++ .ref a :: rest) (ha : (Value.ref a :: argsL).toArray = as') (hW : (rest.map fun v => v.category).sum ≤ W)
    (hd : decode c.code pc = .ok (.invokevirtual index, 3)) (eT : T.heap = h) (EA : Exa Z h a C) (hcl : cells + rm.cells ≤ R.cells) (hsl : slots + rm.slots ≤ R.slots)
    (k : ∀ (v : Option Value) (T' : State) (L' : List Loc) (X' : Stand p l e R s m args below meth c T' (locs ++ L') (cells + rm.cells) (slots + rm.slots)), Qc v T'.heap L' → own_Fin p e below s Q kc ks (T'.setTop (mkF m (pc + 3) Ls (v.toList ++ rest)))) :
    own_Fin p e below s Q kc ks (T.setTop (mkF m pc Ls S)) := by
  subst hS
  obtain ⟨cq, kq, q1, q2, q3⟩ := isOf hZ eT EA
  obtain ⟨v, _, ⟨T', L1, k1, n1⟩, -, X', ⟨L', hQ, l1, y1, z1⟩, st⟩ := X.virtualBack hx (y := y) (z := y) hown (mvT hZ wl) (mvT hZ wd) (notFace_of_selects (args := #[]) (mvT hZ wsel)) (mvT hZ wsel) (mvT hZ ws) hy (backOf (W := W) hM hZ wc wz hf hl) q1 q3 (g := mkF m pc Ls (argsL.reverse ++ .ref a :: rest)) rfl hsize (Steps.refl _) (argsL := argsL) (rest := rest) hlen rfl (by show 2 * 0 + _ ≤ _; omega) hd (fun _ _ => ⟨ha, eT, hcl, hsl⟩)
  dsimp only [Pt.U, Pt.locs, Pt.cells, Pt.slots] at X' l1 y1 z1 st hQ
  subst l1 y1 z1
  exact own_st (fun t => st.trans) (k v T' L' X' hQ)
/-! arrays -/
variable {a : Addr} {kA : ClassId} {n j x : Int32} {vs : List Value} {dv : Value}
theorem own_stI (X : Stand p l e R s m args below meth c T locs cells slots) (hx : p.tables.exec = Jvm.exec) (hZ : Z.Warmed39 s.vm) (eT : T.heap = h) (V : Arv Z h a kA .int n vs dv) (q : ¬ j < 0 ∧ j < n) (hi : j.toNatClampNeg < vs.length) {g : JFrame} (hg : g.method = m) {rest : List Value} (hs : g.stack = .int x :: .int j :: .ref a :: rest) (hd : decode c.code g.pc = .ok (.iastore, 1)) :
    ∃ T' h', Stand p l e R s m args below meth c T' (locs ++ [⟨a, j.toNatClampNeg⟩]) cells slots ∧ T'.heap = h' ∧ Wr h h' a j.toNatClampNeg (.int x) ∧ Arv Z h' a kA .int n (vs.set j.toNatClampNeg (.int x)) dv ∧ ∀ target, Steps p.tables e below (T'.setTop { g with pc := g.pc + 1, stack := rest }) target → Steps p.tables e below (T.setTop g) target := by
  obtain ⟨cl, Ar, q1, S1, N1, H1, G1⟩ := V
  obtain ⟨T', h', X', e', W', st⟩ := stI X hx hZ eT Ar (inb_of S1 q) hg hs hd
  exact ⟨T', h', X', e', W', Arv.set Ar q1 S1 N1 H1 G1 rfl W' _ rfl hi, st⟩
theorem own_stB (X : Stand p l e R s m args below meth c T locs cells slots) (hx : p.tables.exec = Jvm.exec) (hZ : Z.Warmed39 s.vm) (eT : T.heap = h) (V : Arv Z h a kA .byte n vs dv) (q : ¬ j < 0 ∧ j < n) (hi : j.toNatClampNeg < vs.length) {g : JFrame} (hg : g.method = m) {rest : List Value} (hs : g.stack = .int x :: .int j :: .ref a :: rest) (hd : decode c.code g.pc = .ok (.bastore, 1)) :
    ∃ T' h', Stand p l e R s m args below meth c T' (locs ++ [⟨a, j.toNatClampNeg⟩]) cells slots ∧ T'.heap = h' ∧ Wr h h' a j.toNatClampNeg (.int (nar .byte x)) ∧ Arv Z h' a kA .byte n (vs.set j.toNatClampNeg (.int x.toInt8.toInt32)) dv ∧ ∀ target, Steps p.tables e below (T'.setTop { g with pc := g.pc + 1, stack := rest }) target → Steps p.tables e below (T.setTop g) target := by
  obtain ⟨cl, Ar, q1, S1, N1, H1, G1⟩ := V
  obtain ⟨T', h', X', e', W', st⟩ := stB X hx hZ eT Ar (inb_of S1 q) hg hs hd
  exact ⟨T', h', X', e', W', Arv.set Ar q1 S1 N1 H1 G1 (fits_nar_byte x) W' _ rfl hi, st⟩
theorem own_stJ {x : Int64} (X : Stand p l e R s m args below meth c T locs cells slots) (hx : p.tables.exec = Jvm.exec) (hZ : Z.Warmed39 s.vm) (eT : T.heap = h) (V : Arv Z h a kA .long n vs dv) (q : ¬ j < 0 ∧ j < n) (hi : j.toNatClampNeg < vs.length) {g : JFrame} (hg : g.method = m) {rest : List Value} (hs : g.stack = .long x :: .int j :: .ref a :: rest) (hd : decode c.code g.pc = .ok (.lastore, 1)) :
    ∃ T' h', Stand p l e R s m args below meth c T' (locs ++ [⟨a, j.toNatClampNeg⟩]) cells slots ∧ T'.heap = h' ∧ Wr h h' a j.toNatClampNeg (.long x) ∧ Arv Z h' a kA .long n (vs.set j.toNatClampNeg (.long x)) dv ∧ ∀ target, Steps p.tables e below (T'.setTop { g with pc := g.pc + 1, stack := rest }) target → Steps p.tables e below (T.setTop g) target := by
  obtain ⟨cl, Ar, q1, S1, N1, H1, G1⟩ := V
  obtain ⟨T', h', X', e', W', st⟩ := stJ X hx hZ eT Ar (inb_of S1 q) hg hs hd
  exact ⟨T', h', X', e', W', Arv.set Ar q1 S1 N1 H1 G1 rfl W' _ rfl hi, st⟩
theorem own_ldI (X : Stand p l e R s m args below meth c T locs cells slots) (hx : p.tables.exec = Jvm.exec) (hZ : Z.Warmed39 s.vm) (eT : T.heap = h) (V : Arv Z h a kA .int n vs dv) (q : ¬ j < 0 ∧ j < n) {v : Value} (hv : vs.getD j.toNatClampNeg dv = v) {g : JFrame} (hg : g.method = m) {rest : List Value} (hs : g.stack = .int j :: .ref a :: rest) (hd : decode c.code g.pc = .ok (.iaload, 1)) :
    ∀ target, Steps p.tables e below (T.setTop { g with pc := g.pc + 1, stack := v :: rest }) target → Steps p.tables e below (T.setTop g) target := by
  obtain ⟨cl, Ar, q1, S1, N1, H1, G1⟩ := V
  exact X.iaload hx (by rw [eT]; exact Ar.1) (State.isArrayOf_alike hZ.alike Ar.2.1) Ar.2.2 (inb_of S1 q) (H1.at (inb_of S1 q) hv) hg hs hd
theorem own_ldB (X : Stand p l e R s m args below meth c T locs cells slots) (hx : p.tables.exec = Jvm.exec) (hZ : Z.Warmed39 s.vm) (eT : T.heap = h) (V : Arv Z h a kA .byte n vs dv) (q : ¬ j < 0 ∧ j < n) {v : Value} (hv : vs.getD j.toNatClampNeg dv = v) {g : JFrame} (hg : g.method = m) {rest : List Value} (hs : g.stack = .int j :: .ref a :: rest) (hd : decode c.code g.pc = .ok (.baload, 1)) :
    ∀ target, Steps p.tables e below (T.setTop { g with pc := g.pc + 1, stack := v :: rest }) target → Steps p.tables e below (T.setTop g) target := by
  obtain ⟨cl, Ar, q1, S1, N1, H1, G1⟩ := V
  exact X.baloadBytes hx (by rw [eT]; exact Ar.1) (State.isArrayOf_alike hZ.alike Ar.2.1) Ar.2.2 (inb_of S1 q) (H1.at (inb_of S1 q) hv) hg hs hd
theorem own_ldJ (X : Stand p l e R s m args below meth c T locs cells slots) (hx : p.tables.exec = Jvm.exec) (hZ : Z.Warmed39 s.vm) (eT : T.heap = h) (V : Arv Z h a kA .long n vs dv) (q : ¬ j < 0 ∧ j < n) {v : Value} (hv : vs.getD j.toNatClampNeg dv = v) {g : JFrame} (hg : g.method = m) {rest : List Value} (hs : g.stack = .int j :: .ref a :: rest) (hd : decode c.code g.pc = .ok (.laload, 1)) :
    ∀ target, Steps p.tables e below (T.setTop { g with pc := g.pc + 1, stack := v :: rest }) target → Steps p.tables e below (T.setTop g) target := by
  obtain ⟨cl, Ar, q1, S1, N1, H1, G1⟩ := V
  exact X.laload hx (by rw [eT]; exact Ar.1) (State.isArrayOf_alike hZ.alike Ar.2.1) Ar.2.2 (inb_of S1 q) (H1.at (inb_of S1 q) hv) hg hs hd
theorem own_len {ty : FieldType} (X : Stand p l e R s m args below meth c T locs cells slots) (hx : p.tables.exec = Jvm.exec) (hZ : Z.Warmed39 s.vm) (eT : T.heap = h) (V : Arv Z h a kA ty n vs dv) {g : JFrame} (hg : g.method = m) {rest : List Value} (hs : g.stack = .ref a :: rest) (hd : decode c.code g.pc = .ok (.arraylength, 1)) :
    ∀ target, Steps p.tables e below (T.setTop { g with pc := g.pc + 1, stack := .int n :: rest }) target → Steps p.tables e below (T.setTop g) target := by
  obtain ⟨cl, Ar, q1, S1, N1, H1, G1⟩ := V
  intro t k
  refine X.arraylength hx (by rw [eT]; exact Ar.1) (State.isArrayOf_alike hZ.alike Ar.2.1) hg hs hd t ?_
  rw [len_of S1 N1]; exact k
end Own

def own_at4 (x0 x1 x2 x3 i : Int32) : Int32 := if i = 0 then x0 else if i = 1 then x1 else if i = 2 then x2 else x3
theorem own_cases4 {i : Int32} (h : ¬ i < 0 ∧ i < 4) : i = 0 ∨ i = 1 ∨ i = 2 ∨ i = 3 := by
  obtain ⟨h, h'⟩ := h
  rw [Int32.lt_iff_toInt_lt] at h h'
  have e0 : (0 : Int32).toInt = 0 := by decide
  have e1 : (1 : Int32).toInt = 1 := by decide
  have e2 : (2 : Int32).toInt = 2 := by decide
  have e3 : (3 : Int32).toInt = 3 := by decide
  have e4 : (4 : Int32).toInt = 4 := by decide
  simp only [← Int32.toInt_inj, e0, e1, e2, e3]
  omega
theorem own_getD4 {x0 x1 x2 x3 i : Int32} (h : ¬ i < 0 ∧ i < 4) : [Value.int x0, Value.int x1, Value.int x2, Value.int x3].getD i.toNatClampNeg (.int (0 : Int32)) = .int (own_at4 x0 x1 x2 x3 i) := by
  rcases own_cases4 h with rfl | rfl | rfl | rfl <;> rfl
def own_ix (len bit : Int32) : Int32 := ((len - (1 : Int32)) - (bit / (8 : Int32)))
def own_ib (x0 x1 x2 x3 len bit : Int32) : Int32 := if own_ix len bit < (0 : Int32) then 0 else if (((own_at4 x0 x1 x2 x3 (own_ix len bit)) >>> ((bit % (8 : Int32)) &&& 31)) &&& (1 : Int32)) = (1 : Int32) then 1 else 0
theorem own_bvn {b : Int32} {n : Nat} (h : b.toInt = n) : b.toBitVec.toNat = n := by
  have h2 : b.toBitVec.toInt = n := h
  rw [BitVec.toInt_eq_toNat_cond] at h2
  have := b.toBitVec.isLt
  split at h2 <;> omega
theorem own_tb (W : Int64) (bit : Int32) (n : Nat) (hn : bit.toInt = n) (h1 : n < 32) (hV : 0 ≤ W.toInt) : ((((W.toUInt64 >>> (bit &&& 0x3f).toInt64.toUInt64).toInt64) &&& (1 : Int64)) = (1 : Int64)) ↔ (W.toInt / (2 ^ n : Nat)) % 2 = 1 := by
  have hb : bit.toBitVec.toNat % 64 = n := by rw [own_bvn hn]; omega
  have e1 : (1 : Int64).toInt = 1 := by decide
  rw [← Int64.toInt_inj, c_maskL _ 1 1 (by decide) (by decide), e1]
  have r := rng64 W
  by_cases h0 : 0 < n
  · rw [c_lushr W bit n hb h0, Int.emod_eq_of_lt hV (by omega)]
    exact Iff.rfl
  · obtain rfl : n = 0 := by omega
    have q : bit = 0 := Int32.toInt_inj.mp (by rw [hn]; decide)
    subst q
    have q2 : ((W.toUInt64 >>> ((0 : Int32) &&& 0x3f).toInt64.toUInt64).toInt64) = W := by
      have : ((0 : Int32) &&& 0x3f).toInt64.toUInt64 = 0 := by decide
      rw [this]; simp
    rw [q2]
    have e : W.toInt / ((2 ^ 0 : Nat) : Int) = W.toInt := Int.ediv_one _
    rw [e]
    exact Iff.rfl
theorem own_sb (b r : Int32) (n : Nat) (hn : r.toInt = n) (h1 : n < 8) : (((b >>> (r &&& 31)) &&& (1 : Int32)) = (1 : Int32)) ↔ (b.toInt / (2 ^ n : Nat)) % 2 = 1 := by
  have hb : r.toBitVec.toNat % 32 = n := by rw [own_bvn hn]; omega
  have e1 : (1 : Int32).toInt = 1 := by decide
  rw [← Int32.toInt_inj, c_mask _ 1 1 (by decide) (by decide), e1, c_ishr b r n hb]
  exact Iff.rfl
theorem own_int (W B s : Int) (q r : Nat) (hr : r < 8) (hs : (s - B) % 256 = 0) (hV : W / ((2 ^ (8 * q) : Nat) : Int) % 256 = B) : (W / ((2 ^ (8 * q + r) : Nat) : Int)) % 2 = (s / ((2 ^ r : Nat) : Int)) % 2 := by
  have e : W / ((2 ^ (8 * q + r) : Nat) : Int) = W / ((2 ^ (8 * q) : Nat) : Int) / ((2 ^ r : Nat) : Int) := by
    rw [Nat.pow_add, Int.natCast_mul, Int.ediv_ediv_of_nonneg (Int.natCast_nonneg _)]
  rw [e]
  generalize W / ((2 ^ (8 * q) : Nat) : Int) = U at hV
  rcases (by omega : r = 0 ∨ r = 1 ∨ r = 2 ∨ r = 3 ∨ r = 4 ∨ r = 5 ∨ r = 6 ∨ r = 7) with rfl | rfl | rfl | rfl | rfl | rfl | rfl | rfl <;> omega
theorem own_by {b : Int32} : ((b.toInt8.toInt32).toInt8.toInt32.toInt - b.toInt) % 256 = 0 := by
  have h2 := c_i2b b
  have h3 := c_i2b b.toInt8.toInt32
  omega
theorem own_key (b0 b1 b2 b3 k bit : Int32) (W : Int64) (j : Int32) (B : Int) (q : Nat) (hq : bit.toInt / 8 = q) (h0 : 0 ≤ bit.toInt) (h1 : bit.toInt < 32) (hW : 0 ≤ W.toInt) (hj : own_ix k bit = j) (hj0 : ¬ j < 0)
    (ha : ((own_at4 (b0.toInt8.toInt32).toInt8.toInt32 (b1.toInt8.toInt32).toInt8.toInt32 (b2.toInt8.toInt32).toInt8.toInt32 (b3.toInt8.toInt32).toInt8.toInt32 j).toInt - B) % 256 = 0) (hV : W.toInt / ((2 ^ (8 * q) : Nat) : Int) % 256 = B) :
    own_ib (b0.toInt8.toInt32).toInt8.toInt32 (b1.toInt8.toInt32).toInt8.toInt32 (b2.toInt8.toInt32).toInt8.toInt32 (b3.toInt8.toInt32).toInt8.toInt32 k bit = if (((W.toUInt64 >>> (bit &&& 0x3f).toInt64.toUInt64).toInt64) &&& (1 : Int64)) = (1 : Int64) then 1 else 0 := by
  have hr : (bit % (8 : Int32)).toInt = ((bit.toInt % 8).toNat : Int) := by
    rw [(c_irem bit 8 8 (by decide)).1 h0]; omega
  have hn : bit.toInt = ((8 * q + (bit.toInt % 8).toNat : Nat) : Int) := by omega
  unfold own_ib
  rw [hj, if_neg hj0]
  have e := own_int W.toInt B _ q (bit.toInt % 8).toNat (by omega) ha hV
  by_cases c : (((W.toUInt64 >>> (bit &&& 0x3f).toInt64.toUInt64).toInt64) &&& (1 : Int64)) = (1 : Int64)
  · have c' := (own_tb W bit _ hn (by omega) hW).mp c
    rw [if_pos c, if_pos ((own_sb _ _ _ hr (by omega)).mpr (by rw [← e]; exact c'))]
  · have c' : ¬ _ := fun z => c ((own_tb W bit _ hn (by omega) hW).mpr z)
    rw [if_neg c, if_neg (fun z => c' (by rw [e]; exact (own_sb _ _ _ hr (by omega)).mp z))]
theorem own_ixv {k bit : Int32} {kk : Int} (hk : k.toInt = kk) (h0 : 0 ≤ kk) (h1 : kk ≤ 4) (hb : 0 ≤ bit.toInt) : (own_ix k bit).toInt = kk - 1 - bit.toInt / 8 := by
  have d := (c_idiv bit 8 8 (by decide) (by decide)).1 hb
  have s1 := c_isub k 1
  have s2 := c_isub (k - 1) (bit / 8)
  have e1 : (1 : Int32).toInt = 1 := by decide
  have r1 := rng32 (k - 1)
  have r2 := rng32 ((k - 1) - (bit / 8))
  have r3 := rng32 bit
  unfold own_ix
  rw [e1] at s1
  rw [d] at s2
  omega
theorem own_out {x0 x1 x2 x3 k bit : Int32} {kk : Int} (hk : k.toInt = kk) (h0 : 0 ≤ kk) (h1 : kk ≤ 4) (hb : 0 ≤ bit.toInt) (h : 8 * kk ≤ bit.toInt) : own_ib x0 x1 x2 x3 k bit = 0 := by
  have e := own_ixv hk h0 h1 hb
  have e0 : (0 : Int32).toInt = 0 := by decide
  unfold own_ib
  rw [if_pos (by rw [Int32.lt_iff_toInt_lt, e, e0]; omega)]
theorem own_ixj {k bit j : Int32} {kk jj : Int} (hk : k.toInt = kk) (h0 : 0 ≤ kk) (h1 : kk ≤ 4) (hb : 0 ≤ bit.toInt) (hj : j.toInt = jj) (h : kk - 1 - bit.toInt / 8 = jj) : own_ix k bit = j :=
  Int32.toInt_inj.mp (by rw [own_ixv hk h0 h1 hb, hj, h])
theorem own_len5 {a l : Int32} (h : (a &&& (7 : Int32)) % (5 : Int32) = l) : l = 0 ∨ l = 1 ∨ l = 2 ∨ l = 3 ∨ l = 4 := by
  subst h
  have h1 := c_mask a 7 3 (by decide) (by decide)
  have h2 := (c_irem (a &&& (7 : Int32)) 5 5 (by decide)).1 (by omega)
  have e0 : (0 : Int32).toInt = 0 := by decide
  have e1 : (1 : Int32).toInt = 1 := by decide
  have e2 : (2 : Int32).toInt = 2 := by decide
  have e3 : (3 : Int32).toInt = 3 := by decide
  have e4 : (4 : Int32).toInt = 4 := by decide
  simp only [← Int32.toInt_inj, e0, e1, e2, e3, e4]
  omega
theorem own_b255 {a b : Int32} (h : (a &&& (255 : Int32)) = b) : 0 ≤ b.toInt ∧ b.toInt < 256 := by
  subst h
  have h1 := c_mask a 255 8 (by decide) (by decide)
  omega
theorem own_m31 (a : Int32) : 0 ≤ (a &&& (2147483647 : Int32)).toInt := by
  have h1 := c_mask a 2147483647 31 (by decide) (by decide)
  omega
theorem own_m6 (a : Int32) : 0 ≤ (a &&& (63 : Int32)).toInt := by
  have h1 := c_mask a 63 6 (by decide) (by decide)
  omega
theorem own_h {u : Int64} {b : Int32} {U : Int} (hu : u.toInt = U) (h0 : 0 ≤ U) (h1 : U < 16777216) (hb : 0 ≤ b.toInt ∧ b.toInt < 256) : ((u * (256 : Int64)) + b.toInt64).toInt = U * 256 + b.toInt := by
  have m := c_lmul u 256
  have e : (256 : Int64).toInt = 256 := by decide
  have r := rng64 (u * 256)
  have a := c_ladd (u * (256 : Int64)) b.toInt64
  have r2 := rng64 ((u * (256 : Int64)) + b.toInt64)
  have i := c_i2l b
  rw [e, hu] at m
  omega
theorem own_m1 {b0 b1 b2 b3 bit : Int32} {W : Int64} (h0 : 0 ≤ b0.toInt ∧ b0.toInt < 256) (hW : W.toInt = b0.toInt) (hb : 0 ≤ bit.toInt) (hl : bit.toInt < 8) :
    own_ib (b0.toInt8.toInt32).toInt8.toInt32 (b1.toInt8.toInt32).toInt8.toInt32 (b2.toInt8.toInt32).toInt8.toInt32 (b3.toInt8.toInt32).toInt8.toInt32 1 bit = if (((W.toUInt64 >>> (bit &&& 0x3f).toInt64.toUInt64).toInt64) &&& (1 : Int64)) = (1 : Int64) then 1 else 0 :=
  own_key b0 b1 b2 b3 1 bit W 0 b0.toInt 0 (by omega) hb (by omega) (by omega) (own_ixj (kk := 1) (jj := 0) (by decide) (by decide) (by decide) hb (by decide) (by omega)) (by decide) own_by (by rw [hW]; omega)
theorem own_m2 {b0 b1 b2 b3 bit : Int32} {W : Int64} (h0 : 0 ≤ b0.toInt ∧ b0.toInt < 256) (h1 : 0 ≤ b1.toInt ∧ b1.toInt < 256) (hW : W.toInt = b0.toInt * 256 + b1.toInt) (hb : 0 ≤ bit.toInt) (hl : bit.toInt < 16) :
    own_ib (b0.toInt8.toInt32).toInt8.toInt32 (b1.toInt8.toInt32).toInt8.toInt32 (b2.toInt8.toInt32).toInt8.toInt32 (b3.toInt8.toInt32).toInt8.toInt32 2 bit = if (((W.toUInt64 >>> (bit &&& 0x3f).toInt64.toUInt64).toInt64) &&& (1 : Int64)) = (1 : Int64) then 1 else 0 := by
  rcases (by omega : bit.toInt / 8 = (0 : Nat) ∨ bit.toInt / 8 = (1 : Nat)) with q | q
  · exact own_key b0 b1 b2 b3 2 bit W 1 b1.toInt 0 q hb (by omega) (by omega) (own_ixj (kk := 2) (jj := 1) (by decide) (by decide) (by decide) hb (by decide) (by omega)) (by decide) own_by (by rw [hW]; omega)
  · exact own_key b0 b1 b2 b3 2 bit W 0 b0.toInt 1 q hb (by omega) (by omega) (own_ixj (kk := 2) (jj := 0) (by decide) (by decide) (by decide) hb (by decide) (by omega)) (by decide) own_by (by rw [hW]; omega)
theorem own_m3 {b0 b1 b2 b3 bit : Int32} {W : Int64} (h0 : 0 ≤ b0.toInt ∧ b0.toInt < 256) (h1 : 0 ≤ b1.toInt ∧ b1.toInt < 256) (h2 : 0 ≤ b2.toInt ∧ b2.toInt < 256) (hW : W.toInt = (b0.toInt * 256 + b1.toInt) * 256 + b2.toInt) (hb : 0 ≤ bit.toInt) (hl : bit.toInt < 24) :
    own_ib (b0.toInt8.toInt32).toInt8.toInt32 (b1.toInt8.toInt32).toInt8.toInt32 (b2.toInt8.toInt32).toInt8.toInt32 (b3.toInt8.toInt32).toInt8.toInt32 3 bit = if (((W.toUInt64 >>> (bit &&& 0x3f).toInt64.toUInt64).toInt64) &&& (1 : Int64)) = (1 : Int64) then 1 else 0 := by
  rcases (by omega : bit.toInt / 8 = (0 : Nat) ∨ bit.toInt / 8 = (1 : Nat) ∨ bit.toInt / 8 = (2 : Nat)) with q | q | q
  · exact own_key b0 b1 b2 b3 3 bit W 2 b2.toInt 0 q hb (by omega) (by omega) (own_ixj (kk := 3) (jj := 2) (by decide) (by decide) (by decide) hb (by decide) (by omega)) (by decide) own_by (by rw [hW]; omega)
  · exact own_key b0 b1 b2 b3 3 bit W 1 b1.toInt 1 q hb (by omega) (by omega) (own_ixj (kk := 3) (jj := 1) (by decide) (by decide) (by decide) hb (by decide) (by omega)) (by decide) own_by (by rw [hW]; omega)
  · exact own_key b0 b1 b2 b3 3 bit W 0 b0.toInt 2 q hb (by omega) (by omega) (own_ixj (kk := 3) (jj := 0) (by decide) (by decide) (by decide) hb (by decide) (by omega)) (by decide) own_by (by rw [hW]; omega)
theorem own_m4 {b0 b1 b2 b3 bit : Int32} {W : Int64} (h0 : 0 ≤ b0.toInt ∧ b0.toInt < 256) (h1 : 0 ≤ b1.toInt ∧ b1.toInt < 256) (h2 : 0 ≤ b2.toInt ∧ b2.toInt < 256) (h3 : 0 ≤ b3.toInt ∧ b3.toInt < 256) (hW : W.toInt = ((b0.toInt * 256 + b1.toInt) * 256 + b2.toInt) * 256 + b3.toInt) (hb : 0 ≤ bit.toInt) (hl : bit.toInt < 32) :
    own_ib (b0.toInt8.toInt32).toInt8.toInt32 (b1.toInt8.toInt32).toInt8.toInt32 (b2.toInt8.toInt32).toInt8.toInt32 (b3.toInt8.toInt32).toInt8.toInt32 4 bit = if (((W.toUInt64 >>> (bit &&& 0x3f).toInt64.toUInt64).toInt64) &&& (1 : Int64)) = (1 : Int64) then 1 else 0 := by
  rcases (by omega : bit.toInt / 8 = (0 : Nat) ∨ bit.toInt / 8 = (1 : Nat) ∨ bit.toInt / 8 = (2 : Nat) ∨ bit.toInt / 8 = (3 : Nat)) with q | q | q | q
  · exact own_key b0 b1 b2 b3 4 bit W 3 b3.toInt 0 q hb (by omega) (by omega) (own_ixj (kk := 4) (jj := 3) (by decide) (by decide) (by decide) hb (by decide) (by omega)) (by decide) own_by (by rw [hW]; omega)
  · exact own_key b0 b1 b2 b3 4 bit W 2 b2.toInt 1 q hb (by omega) (by omega) (own_ixj (kk := 4) (jj := 2) (by decide) (by decide) (by decide) hb (by decide) (by omega)) (by decide) own_by (by rw [hW]; omega)
  · exact own_key b0 b1 b2 b3 4 bit W 1 b1.toInt 2 q hb (by omega) (by omega) (own_ixj (kk := 4) (jj := 1) (by decide) (by decide) (by decide) hb (by decide) (by omega)) (by decide) own_by (by rw [hW]; omega)
  · exact own_key b0 b1 b2 b3 4 bit W 0 b0.toInt 3 q hb (by omega) (by omega) (own_ixj (kk := 4) (jj := 0) (by decide) (by decide) (by decide) hb (by decide) (by omega)) (by decide) own_by (by rw [hW]; omega)
theorem own_ixb {k bit : Int32} {kk : Int} (hk : k.toInt = kk) (h0 : 0 ≤ kk) (h1 : kk ≤ 4) (hb : 0 ≤ bit.toInt) (_h : ¬ own_ix k bit < 0) : own_ix k bit < 4 := by
  have e := own_ixv hk h0 h1 hb
  have e4 : (4 : Int32).toInt = 4 := by decide
  rw [Int32.lt_iff_toInt_lt, e, e4]; omega
theorem own_ltN {a b : Int32} {B : Int} (hb : b.toInt = B) (h : a < b) : a.toInt < B := by rw [Int32.lt_iff_toInt_lt, hb] at h; exact h
theorem own_geN {a b : Int32} {B : Int} (hb : b.toInt = B) (h : ¬ a < b) : B ≤ a.toInt := by rw [Int32.lt_iff_toInt_lt, hb] at h; omega
theorem d1_0 : decode prog_64_method_13_code 0 = .ok (.iload_n 1, 1) := by decide +kernel
theorem d1_1 : decode prog_64_method_13_code 1 = .ok (.iconst 1, 1) := by decide +kernel
theorem d1_2 : decode prog_64_method_13_code 2 = .ok (.isub, 1) := by decide +kernel
theorem d1_3 : decode prog_64_method_13_code 3 = .ok (.iload_n 2, 1) := by decide +kernel
theorem d1_4 : decode prog_64_method_13_code 4 = .ok (.bipush 8, 2) := by decide +kernel
theorem d1_6 : decode prog_64_method_13_code 6 = .ok (.idiv, 1) := by decide +kernel
theorem d1_7 : decode prog_64_method_13_code 7 = .ok (.isub, 1) := by decide +kernel
theorem d1_8 : decode prog_64_method_13_code 8 = .ok (.istore_n 3, 1) := by decide +kernel
theorem d1_9 : decode prog_64_method_13_code 9 = .ok (.iload_n 3, 1) := by decide +kernel
theorem d1_10 : decode prog_64_method_13_code 10 = .ok (.ifCond .lt 21, 3) := by decide +kernel
theorem d1_13 : decode prog_64_method_13_code 13 = .ok (.aload_n 0, 1) := by decide +kernel
theorem d1_14 : decode prog_64_method_13_code 14 = .ok (.iload_n 3, 1) := by decide +kernel
theorem d1_15 : decode prog_64_method_13_code 15 = .ok (.baload, 1) := by decide +kernel
theorem d1_16 : decode prog_64_method_13_code 16 = .ok (.iload_n 2, 1) := by decide +kernel
theorem d1_17 : decode prog_64_method_13_code 17 = .ok (.bipush 8, 2) := by decide +kernel
theorem d1_19 : decode prog_64_method_13_code 19 = .ok (.irem, 1) := by decide +kernel
theorem d1_20 : decode prog_64_method_13_code 20 = .ok (.ishr, 1) := by decide +kernel
theorem d1_21 : decode prog_64_method_13_code 21 = .ok (.iconst 1, 1) := by decide +kernel
theorem d1_22 : decode prog_64_method_13_code 22 = .ok (.iand, 1) := by decide +kernel
theorem d1_23 : decode prog_64_method_13_code 23 = .ok (.iconst 1, 1) := by decide +kernel
theorem d1_24 : decode prog_64_method_13_code 24 = .ok (.if_icmp .ne 7, 3) := by decide +kernel
theorem d1_27 : decode prog_64_method_13_code 27 = .ok (.iconst 1, 1) := by decide +kernel
theorem d1_28 : decode prog_64_method_13_code 28 = .ok (.goto 4, 3) := by decide +kernel
theorem d1_31 : decode prog_64_method_13_code 31 = .ok (.iconst 0, 1) := by decide +kernel
theorem d1_32 : decode prog_64_method_13_code 32 = .ok (.ireturn, 1) := by decide +kernel
theorem pn_1 : plainName "com/example/wide_berth/wideberth/postgres/Literals" = true := by first | (simp [plainName, overriddenIn]; done) | decide +kernel
theorem ef_1 (m : MethodId) (r0 : Addr) (p1 : Int32) (p2 : Int32) : entryFrame m #[(.ref r0), (.int p1), (.int p2)] 4 = mkF m 0 #[.val (.ref r0), .val (.int p1), .val (.int p2), .unset] [] := by first | (simp [entryFrame, mkF, argsToLocals, Value.category]; done) | rfl
def Q1 (Z : State) (r0 : Addr) (p1 : Int32) (p2 : Int32) (kA : ClassId) (x0 x1 x2 x3 : Int32) (h0 : Heap) (n0 : Nat) (v : Option Value) (h : Heap) (L : List Loc) : Prop := v = some (.int (own_ib x0 x1 x2 x3 p1 p2)) ∧ Fr n0 L ∧ h = h0
set_option maxRecDepth 65536 in
set_option maxHeartbeats 40000000 in
theorem rm1 (l : Launch) (Z : State) (a0 : Array Value) (hw : ∀ d ∈ tables_1, d.before a0 Z = true) (ws : List Jvm.Cond) (r0 : Addr) (p1 : Int32) (p2 : Int32) (kA : ClassId) (x0 x1 x2 x3 : Int32) (h0 : Heap) (n0 : Nat) (Z0 : n0 ≤ h0.size) (PV : Arv Z h0 r0 kA .byte (4 : Int32) [(.int x0), (.int x1), (.int x2), (.int x3)] (.int (0 : Int32))) (HB : ¬ own_ix p1 p2 < 0 → own_ix p1 p2 < 4) :
    MetFree l (⟨"com/example/wide_berth/wideberth/postgres/Literals", "isBitSet", "([BII)Z"⟩ : MethodName) (head1 (Jvm.Cond.code (⟨"com/example/wide_berth/wideberth/postgres/Literals", "isBitSet", "([BII)Z"⟩ : MethodName) prog_64_method_13_code 4 (some .boolean) :: ws) ({ frames := 0, cells := 0, slots := 0, locals := 0 } : Room)) (fun a U => a = #[(.ref r0), (.int p1), (.int p2)] ∧ Z.Warmed39 U.vm ∧ U.heap = h0) (fun _ _ _ _ _ => True) (fun _ U o U' => ∃ v L, o = .returned v ∧ Q1 Z r0 p1 p2 kA x0 x1 x2 x3 h0 n0 v U'.heap L ∧ FrameEnd U o U' L ({ frames := 0, cells := 0, slots := 0, locals := 0 } : Room).cells ({ frames := 0, cells := 0, slots := 0, locals := 0 } : Room).slots) := by
  refine MetFree.of_bodySF (plainFor_of_name pn_1) hisR ?_
  intro p e s m args below meth c s₁ Bd hml0 hP hK
  obtain ⟨rfl, hZ, hh⟩ := hP
  have hx := Bd.exec
  have hby := Bd.bytes
  have hml : c.maxLocals = 4 := hml0
  have hown : s.vm.findClass "com/example/wide_berth/wideberth/postgres/Literals" = some m.cls := findClass_of_methodNamed Bd.named
  have hnm := (name_of_methodNamed Bd.named Bd.method).1
  have hlk : meth.locks = false := Bd.notSynchronized
  have X0 : Stand p l e ({ frames := 0, cells := 0, slots := 0, locals := 0 } : Room) s m #[(.ref r0), (.int p1), (.int p2)] below meth c s₁ [] 0 0 := Stand.of_body Bd
  have e0 : s₁.heap = h0 := by rw [← hh, Bd.state]; rfl
  have N0 := Fr.nil n0
  refine own_cast (Q := Q1 Z r0 p1 p2 kA x0 x1 x2 x3 h0 n0) (kc := 0) (ks := 0) (ef_1 m r0 p1 p2) ?_
  refine own_st (fun _ k => XS.iloadN X0.here hx rfl (hb hby d1_0) rfl k) ?_
  show own_Go X0 (Q1 Z r0 p1 p2 kA x0 x1 x2 x3 h0 n0) 0 0 1 #[.val (.ref r0), .val (.int p1), .val (.int p2), .unset] [(.int p1)]
  refine own_st (fun _ k => XS.iconst X0.here hx rfl (hb hby d1_1) k) ?_
  show own_Go X0 (Q1 Z r0 p1 p2 kA x0 x1 x2 x3 h0 n0) 0 0 2 #[.val (.ref r0), .val (.int p1), .val (.int p2), .unset] [(.int (1 : Int32)), (.int p1)]
  refine own_st (fun _ k => XS.isub X0.here hx rfl (hb hby d1_2) rfl k) ?_
  show own_Go X0 (Q1 Z r0 p1 p2 kA x0 x1 x2 x3 h0 n0) 0 0 3 #[.val (.ref r0), .val (.int p1), .val (.int p2), .unset] [(.int (p1 - (1 : Int32)))]
  refine own_st (fun _ k => XS.iloadN X0.here hx rfl (hb hby d1_3) rfl k) ?_
  show own_Go X0 (Q1 Z r0 p1 p2 kA x0 x1 x2 x3 h0 n0) 0 0 4 #[.val (.ref r0), .val (.int p1), .val (.int p2), .unset] [(.int p2), (.int (p1 - (1 : Int32)))]
  refine own_st (fun _ k => XS.bipush X0.here hx rfl (hb hby d1_4) k) ?_
  show own_Go X0 (Q1 Z r0 p1 p2 kA x0 x1 x2 x3 h0 n0) 0 0 6 #[.val (.ref r0), .val (.int p1), .val (.int p2), .unset] [(.int (8 : Int32)), (.int p2), (.int (p1 - (1 : Int32)))]
  refine own_st (fun _ k => XS.idiv X0.here hx rfl (hb hby d1_6) rfl (by decide) k) ?_
  show own_Go X0 (Q1 Z r0 p1 p2 kA x0 x1 x2 x3 h0 n0) 0 0 7 #[.val (.ref r0), .val (.int p1), .val (.int p2), .unset] [(.int (p2 / (8 : Int32))), (.int (p1 - (1 : Int32)))]
  refine own_st (fun _ k => XS.isub X0.here hx rfl (hb hby d1_7) rfl k) ?_
  show own_Go X0 (Q1 Z r0 p1 p2 kA x0 x1 x2 x3 h0 n0) 0 0 8 #[.val (.ref r0), .val (.int p1), .val (.int p2), .unset] [(.int ((p1 - (1 : Int32)) - (p2 / (8 : Int32))))]
  refine own_st (fun _ k => XS.istoreN X0.here hx rfl (hb hby d1_8) rfl (l' := #[.val (.ref r0), .val (.int p1), .val (.int p2), .val (.int ((p1 - (1 : Int32)) - (p2 / (8 : Int32))))]) rfl k) ?_
  show own_Go X0 (Q1 Z r0 p1 p2 kA x0 x1 x2 x3 h0 n0) 0 0 9 #[.val (.ref r0), .val (.int p1), .val (.int p2), .val (.int ((p1 - (1 : Int32)) - (p2 / (8 : Int32))))] []
  show own_Go X0 (Q1 Z r0 p1 p2 kA x0 x1 x2 x3 h0 n0) 0 0 9 #[.val (.ref r0), .val (.int p1), .val (.int p2), .val (.int (own_ix p1 p2))] []
  refine own_st (fun _ k => XS.iloadN X0.here hx rfl (hb hby d1_9) rfl k) ?_
  show own_Go X0 (Q1 Z r0 p1 p2 kA x0 x1 x2 x3 h0 n0) 0 0 10 #[.val (.ref r0), .val (.int p1), .val (.int p2), .val (.int (own_ix p1 p2))] [(.int (own_ix p1 p2))]
  by_cases c10_1 : (own_ix p1 p2) < (0 : Int32)
  · skip
    refine own_st (fun _ k => XS.ifYes X0.here hx rfl (pc0 := 10) (pc' := 31) rfl (hb hby d1_10) rfl ((if0 _ _).trans (tlt c10_1).1) (by decide) (by decide) k) ?_
    show own_Go X0 (Q1 Z r0 p1 p2 kA x0 x1 x2 x3 h0 n0) 0 0 31 #[.val (.ref r0), .val (.int p1), .val (.int p2), .val (.int (own_ix p1 p2))] []
    refine own_st (fun _ k => XS.iconst X0.here hx rfl (hb hby d1_31) k) ?_
    show own_Go X0 (Q1 Z r0 p1 p2 kA x0 x1 x2 x3 h0 n0) 0 0 32 #[.val (.ref r0), .val (.int p1), .val (.int p2), .val (.int (own_ix p1 p2))] [(.int (0 : Int32))]
    refine own_retN X0 hx Bd.returns (by simp) hlk e0 (hb hby d1_32) (by decide) (by decide) ?_
    have hr : own_ib x0 x1 x2 x3 p1 p2 = (0 : Int32) := by unfold own_ib; rw [if_pos c10_1]
    exact ⟨by rw [hr]; rfl, N0, rfl⟩
  · skip
    refine own_st (fun _ k => XS.ifNo X0.here hx rfl (hb hby d1_10) rfl ((if0 _ _).trans (flt c10_1).1) k) ?_
    show own_Go X0 (Q1 Z r0 p1 p2 kA x0 x1 x2 x3 h0 n0) 0 0 13 #[.val (.ref r0), .val (.int p1), .val (.int p2), .val (.int (own_ix p1 p2))] []
    refine own_st (fun _ k => XS.aloadN X0.here hx rfl (hb hby d1_13) rfl rfl k) ?_
    show own_Go X0 (Q1 Z r0 p1 p2 kA x0 x1 x2 x3 h0 n0) 0 0 14 #[.val (.ref r0), .val (.int p1), .val (.int p2), .val (.int (own_ix p1 p2))] [(.ref r0)]
    refine own_st (fun _ k => XS.iloadN X0.here hx rfl (hb hby d1_14) rfl k) ?_
    show own_Go X0 (Q1 Z r0 p1 p2 kA x0 x1 x2 x3 h0 n0) 0 0 15 #[.val (.ref r0), .val (.int p1), .val (.int p2), .val (.int (own_ix p1 p2))] [(.int (own_ix p1 p2)), (.ref r0)]
    refine own_st (fun _ k => own_ldB X0 hx hZ e0 PV (j := (own_ix p1 p2)) ⟨c10_1, HB c10_1⟩ (v := (.int (own_at4 x0 x1 x2 x3 (own_ix p1 p2)))) (own_getD4 ⟨c10_1, HB c10_1⟩) (g := (mkF m 15 #[.val (.ref r0), .val (.int p1), .val (.int p2), .val (.int (own_ix p1 p2))] [(.int (own_ix p1 p2)), (.ref r0)])) rfl rfl (hb hby d1_15) _ k) ?_
    show own_Go X0 (Q1 Z r0 p1 p2 kA x0 x1 x2 x3 h0 n0) 0 0 16 #[.val (.ref r0), .val (.int p1), .val (.int p2), .val (.int (own_ix p1 p2))] [(.int (own_at4 x0 x1 x2 x3 (own_ix p1 p2)))]
    refine own_st (fun _ k => XS.iloadN X0.here hx rfl (hb hby d1_16) rfl k) ?_
    show own_Go X0 (Q1 Z r0 p1 p2 kA x0 x1 x2 x3 h0 n0) 0 0 17 #[.val (.ref r0), .val (.int p1), .val (.int p2), .val (.int (own_ix p1 p2))] [(.int p2), (.int (own_at4 x0 x1 x2 x3 (own_ix p1 p2)))]
    refine own_st (fun _ k => XS.bipush X0.here hx rfl (hb hby d1_17) k) ?_
    show own_Go X0 (Q1 Z r0 p1 p2 kA x0 x1 x2 x3 h0 n0) 0 0 19 #[.val (.ref r0), .val (.int p1), .val (.int p2), .val (.int (own_ix p1 p2))] [(.int (8 : Int32)), (.int p2), (.int (own_at4 x0 x1 x2 x3 (own_ix p1 p2)))]
    refine own_st (fun _ k => iremM X0 hx rfl (hb hby d1_19) rfl (by decide) k) ?_
    show own_Go X0 (Q1 Z r0 p1 p2 kA x0 x1 x2 x3 h0 n0) 0 0 20 #[.val (.ref r0), .val (.int p1), .val (.int p2), .val (.int (own_ix p1 p2))] [(.int (p2 % (8 : Int32))), (.int (own_at4 x0 x1 x2 x3 (own_ix p1 p2)))]
    refine own_st (fun _ k => XS.ishr X0.here hx rfl (hb hby d1_20) rfl k) ?_
    show own_Go X0 (Q1 Z r0 p1 p2 kA x0 x1 x2 x3 h0 n0) 0 0 21 #[.val (.ref r0), .val (.int p1), .val (.int p2), .val (.int (own_ix p1 p2))] [(.int ((own_at4 x0 x1 x2 x3 (own_ix p1 p2)) >>> ((p2 % (8 : Int32)) &&& 31)))]
    refine own_st (fun _ k => XS.iconst X0.here hx rfl (hb hby d1_21) k) ?_
    show own_Go X0 (Q1 Z r0 p1 p2 kA x0 x1 x2 x3 h0 n0) 0 0 22 #[.val (.ref r0), .val (.int p1), .val (.int p2), .val (.int (own_ix p1 p2))] [(.int (1 : Int32)), (.int ((own_at4 x0 x1 x2 x3 (own_ix p1 p2)) >>> ((p2 % (8 : Int32)) &&& 31)))]
    refine own_st (fun _ k => XS.iand X0.here hx rfl (hb hby d1_22) rfl k) ?_
    show own_Go X0 (Q1 Z r0 p1 p2 kA x0 x1 x2 x3 h0 n0) 0 0 23 #[.val (.ref r0), .val (.int p1), .val (.int p2), .val (.int (own_ix p1 p2))] [(.int (((own_at4 x0 x1 x2 x3 (own_ix p1 p2)) >>> ((p2 % (8 : Int32)) &&& 31)) &&& (1 : Int32)))]
    refine own_st (fun _ k => XS.iconst X0.here hx rfl (hb hby d1_23) k) ?_
    show own_Go X0 (Q1 Z r0 p1 p2 kA x0 x1 x2 x3 h0 n0) 0 0 24 #[.val (.ref r0), .val (.int p1), .val (.int p2), .val (.int (own_ix p1 p2))] [(.int (1 : Int32)), (.int (((own_at4 x0 x1 x2 x3 (own_ix p1 p2)) >>> ((p2 % (8 : Int32)) &&& 31)) &&& (1 : Int32)))]
    by_cases c24_2 : (((own_at4 x0 x1 x2 x3 (own_ix p1 p2)) >>> ((p2 % (8 : Int32)) &&& 31)) &&& (1 : Int32)) = (1 : Int32)
    · skip
      refine own_st (fun _ k => XS.icmpNo X0.here hx rfl (hb hby d1_24) rfl (teq c24_2).2 k) ?_
      show own_Go X0 (Q1 Z r0 p1 p2 kA x0 x1 x2 x3 h0 n0) 0 0 27 #[.val (.ref r0), .val (.int p1), .val (.int p2), .val (.int (own_ix p1 p2))] []
      refine own_st (fun _ k => XS.iconst X0.here hx rfl (hb hby d1_27) k) ?_
      show own_Go X0 (Q1 Z r0 p1 p2 kA x0 x1 x2 x3 h0 n0) 0 0 28 #[.val (.ref r0), .val (.int p1), .val (.int p2), .val (.int (own_ix p1 p2))] [(.int (1 : Int32))]
      refine own_st (fun _ k => XS.goto X0.here hx rfl (pc0 := 28) (pc' := 32) rfl (hb hby d1_28) (by decide) (by decide) k) ?_
      show own_Go X0 (Q1 Z r0 p1 p2 kA x0 x1 x2 x3 h0 n0) 0 0 32 #[.val (.ref r0), .val (.int p1), .val (.int p2), .val (.int (own_ix p1 p2))] [(.int (1 : Int32))]
      refine own_retN X0 hx Bd.returns (by simp) hlk e0 (hb hby d1_32) (by decide) (by decide) ?_
      have hr : own_ib x0 x1 x2 x3 p1 p2 = (1 : Int32) := by unfold own_ib; rw [if_neg c10_1, if_pos c24_2]
      exact ⟨by rw [hr]; rfl, N0, rfl⟩
    · skip
      refine own_st (fun _ k => XS.icmpYes X0.here hx rfl (pc0 := 24) (pc' := 31) rfl (hb hby d1_24) rfl (feq c24_2).2 (by decide) (by decide) k) ?_
      show own_Go X0 (Q1 Z r0 p1 p2 kA x0 x1 x2 x3 h0 n0) 0 0 31 #[.val (.ref r0), .val (.int p1), .val (.int p2), .val (.int (own_ix p1 p2))] []
      refine own_st (fun _ k => XS.iconst X0.here hx rfl (hb hby d1_31) k) ?_
      show own_Go X0 (Q1 Z r0 p1 p2 kA x0 x1 x2 x3 h0 n0) 0 0 32 #[.val (.ref r0), .val (.int p1), .val (.int p2), .val (.int (own_ix p1 p2))] [(.int (0 : Int32))]
      refine own_retN X0 hx Bd.returns (by simp) hlk e0 (hb hby d1_32) (by decide) (by decide) ?_
      have hr : own_ib x0 x1 x2 x3 p1 p2 = (0 : Int32) := by unfold own_ib; rw [if_neg c10_1, if_neg c24_2]
      exact ⟨by rw [hr]; rfl, N0, rfl⟩
theorem pn_0 : plainName "com/example/wide_berth/wideberth/postgres/LiteralsIsBitSetPinLaw" = true := by first | (simp [plainName, overriddenIn]; done) | decide +kernel
theorem pd_0_0 : parseMethodDescriptor "([BII)Z" = some ⟨[(.array .byte), .int, .int], some .boolean⟩ := by decide +kernel
theorem ef_0 (m : MethodId) (p0 : Int32) (p1 : Int32) (p2 : Int32) (p3 : Int32) : entryFrame m #[(.int p0), (.int p1), (.int p2), (.int p3)] maxLocals = mkF m 0 #[.val (.int p0), .val (.int p1), .val (.int p2), .val (.int p3), .unset, .unset, .unset, .unset, .unset, .unset, .unset, .unset, .unset, .unset, .unset] [] := by first | (simp [entryFrame, mkF, argsToLocals, Value.category, maxLocals]; done) | rfl
def Q0 (Z : State) (p0 : Int32) (p1 : Int32) (p2 : Int32) (p3 : Int32)  (h0 : Heap) (n0 : Nat) (v : Option Value) (h : Heap) (L : List Loc) : Prop := v = some (.int 1) ∧ Fr n0 L
set_option maxRecDepth 65536 in
set_option maxHeartbeats 40000000 in
theorem rm0 (l : Launch) (Z : State) (a0 : Array Value) (hw : ∀ d ∈ tables_1, d.before a0 Z = true) (ws : List Jvm.Cond) (p0 : Int32) (p1 : Int32) (p2 : Int32) (p3 : Int32)  (h0 : Heap) (n0 : Nat) (Z0 : n0 ≤ h0.size)  :
    MetFree l x (head1 (Jvm.Cond.code x code maxLocals ret :: ws) room_1) (fun a U => a = #[(.int p0), (.int p1), (.int p2), (.int p3)] ∧ Z.Warmed39 U.vm ∧ U.heap = h0) (fun _ _ _ _ _ => True) (fun _ U o U' => ∃ v L, o = .returned v ∧ Q0 Z p0 p1 p2 p3 h0 n0 v U'.heap L ∧ FrameEnd U o U' L 1 4) := by
  refine MetFree.of_bodySF (plainFor_of_name pn_0) hisR ?_
  intro p e s m args below meth c s₁ Bd hml0 hP hK
  obtain ⟨rfl, hZ, hh⟩ := hP
  have hx := Bd.exec
  have hby := Bd.bytes
  have hml : c.maxLocals = 15 := hml0
  have hown : s.vm.findClass "com/example/wide_berth/wideberth/postgres/LiteralsIsBitSetPinLaw" = some m.cls := findClass_of_methodNamed Bd.named
  have hnm := (name_of_methodNamed Bd.named Bd.method).1
  have hlk : meth.locks = false := Bd.notSynchronized
  have X0 : Stand p l e room_1 s m #[(.int p0), (.int p1), (.int p2), (.int p3)] below meth c s₁ [] 0 0 := Stand.of_body Bd
  have e0 : s₁.heap = h0 := by rw [← hh, Bd.state]; rfl
  have N0 := Fr.nil n0
  refine own_cast (Q := Q0 Z p0 p1 p2 p3 h0 n0) (kc := 1) (ks := 4) (ef_0 m p0 p1 p2 p3) ?_
  refine own_st (fun _ k => XS.iloadN X0.here hx rfl (hb hby at_0) rfl k) ?_
  show own_Go X0 (Q0 Z p0 p1 p2 p3 h0 n0) 1 4 1 #[.val (.int p0), .val (.int p1), .val (.int p2), .val (.int p3), .unset, .unset, .unset, .unset, .unset, .unset, .unset, .unset, .unset, .unset, .unset] [(.int p1)]
  refine own_st (fun _ k => XS.bipush X0.here hx rfl (hb hby at_1) k) ?_
  show own_Go X0 (Q0 Z p0 p1 p2 p3 h0 n0) 1 4 3 #[.val (.int p0), .val (.int p1), .val (.int p2), .val (.int p3), .unset, .unset, .unset, .unset, .unset, .unset, .unset, .unset, .unset, .unset, .unset] [(.int (7 : Int32)), (.int p1)]
  refine own_st (fun _ k => XS.iand X0.here hx rfl (hb hby at_3) rfl k) ?_
  show own_Go X0 (Q0 Z p0 p1 p2 p3 h0 n0) 1 4 4 #[.val (.int p0), .val (.int p1), .val (.int p2), .val (.int p3), .unset, .unset, .unset, .unset, .unset, .unset, .unset, .unset, .unset, .unset, .unset] [(.int (p1 &&& (7 : Int32)))]
  refine own_st (fun _ k => XS.iconst X0.here hx rfl (hb hby at_4) k) ?_
  show own_Go X0 (Q0 Z p0 p1 p2 p3 h0 n0) 1 4 5 #[.val (.int p0), .val (.int p1), .val (.int p2), .val (.int p3), .unset, .unset, .unset, .unset, .unset, .unset, .unset, .unset, .unset, .unset, .unset] [(.int (5 : Int32)), (.int (p1 &&& (7 : Int32)))]
  refine own_st (fun _ k => iremM X0 hx rfl (hb hby at_5) rfl (by decide) k) ?_
  show own_Go X0 (Q0 Z p0 p1 p2 p3 h0 n0) 1 4 6 #[.val (.int p0), .val (.int p1), .val (.int p2), .val (.int p3), .unset, .unset, .unset, .unset, .unset, .unset, .unset, .unset, .unset, .unset, .unset] [(.int ((p1 &&& (7 : Int32)) % (5 : Int32)))]
  refine own_st (fun _ k => XS.istore X0.here hx rfl (hb hby at_6) rfl (l' := #[.val (.int p0), .val (.int p1), .val (.int p2), .val (.int p3), .val (.int ((p1 &&& (7 : Int32)) % (5 : Int32))), .unset, .unset, .unset, .unset, .unset, .unset, .unset, .unset, .unset, .unset]) rfl k) ?_
  show own_Go X0 (Q0 Z p0 p1 p2 p3 h0 n0) 1 4 8 #[.val (.int p0), .val (.int p1), .val (.int p2), .val (.int p3), .val (.int ((p1 &&& (7 : Int32)) % (5 : Int32))), .unset, .unset, .unset, .unset, .unset, .unset, .unset, .unset, .unset, .unset] []
  generalize hln : ((p1 &&& (7 : Int32)) % (5 : Int32)) = ln
  show own_Go X0 (Q0 Z p0 p1 p2 p3 h0 n0) 1 4 8 #[.val (.int p0), .val (.int p1), .val (.int p2), .val (.int p3), .val (.int ln), .unset, .unset, .unset, .unset, .unset, .unset, .unset, .unset, .unset, .unset] []
  refine own_st (fun _ k => XS.iloadN X0.here hx rfl (hb hby at_8) rfl k) ?_
  show own_Go X0 (Q0 Z p0 p1 p2 p3 h0 n0) 1 4 9 #[.val (.int p0), .val (.int p1), .val (.int p2), .val (.int p3), .val (.int ln), .unset, .unset, .unset, .unset, .unset, .unset, .unset, .unset, .unset, .unset] [(.int p0)]
  refine own_st (fun _ k => XS.bipush X0.here hx rfl (hb hby at_9) k) ?_
  show own_Go X0 (Q0 Z p0 p1 p2 p3 h0 n0) 1 4 11 #[.val (.int p0), .val (.int p1), .val (.int p2), .val (.int p3), .val (.int ln), .unset, .unset, .unset, .unset, .unset, .unset, .unset, .unset, .unset, .unset] [(.int (24 : Int32)), (.int p0)]
  refine own_st (fun _ k => XS.iushr X0.here hx rfl (hb hby at_11) rfl k) ?_
  show own_Go X0 (Q0 Z p0 p1 p2 p3 h0 n0) 1 4 12 #[.val (.int p0), .val (.int p1), .val (.int p2), .val (.int p3), .val (.int ln), .unset, .unset, .unset, .unset, .unset, .unset, .unset, .unset, .unset, .unset] [(.int ((p0.toUInt32 >>> ((24 : Int32) &&& 31).toUInt32).toInt32))]
  refine own_st (fun _ k => XS.sipush X0.here hx rfl (hb hby at_12) k) ?_
  show own_Go X0 (Q0 Z p0 p1 p2 p3 h0 n0) 1 4 15 #[.val (.int p0), .val (.int p1), .val (.int p2), .val (.int p3), .val (.int ln), .unset, .unset, .unset, .unset, .unset, .unset, .unset, .unset, .unset, .unset] [(.int (255 : Int32)), (.int ((p0.toUInt32 >>> ((24 : Int32) &&& 31).toUInt32).toInt32))]
  refine own_st (fun _ k => XS.iand X0.here hx rfl (hb hby at_15) rfl k) ?_
  show own_Go X0 (Q0 Z p0 p1 p2 p3 h0 n0) 1 4 16 #[.val (.int p0), .val (.int p1), .val (.int p2), .val (.int p3), .val (.int ln), .unset, .unset, .unset, .unset, .unset, .unset, .unset, .unset, .unset, .unset] [(.int (((p0.toUInt32 >>> ((24 : Int32) &&& 31).toUInt32).toInt32) &&& (255 : Int32)))]
  refine own_st (fun _ k => XS.istore X0.here hx rfl (hb hby at_16) rfl (l' := #[.val (.int p0), .val (.int p1), .val (.int p2), .val (.int p3), .val (.int ln), .val (.int (((p0.toUInt32 >>> ((24 : Int32) &&& 31).toUInt32).toInt32) &&& (255 : Int32))), .unset, .unset, .unset, .unset, .unset, .unset, .unset, .unset, .unset]) rfl k) ?_
  show own_Go X0 (Q0 Z p0 p1 p2 p3 h0 n0) 1 4 18 #[.val (.int p0), .val (.int p1), .val (.int p2), .val (.int p3), .val (.int ln), .val (.int (((p0.toUInt32 >>> ((24 : Int32) &&& 31).toUInt32).toInt32) &&& (255 : Int32))), .unset, .unset, .unset, .unset, .unset, .unset, .unset, .unset, .unset] []
  generalize hy0 : (((p0.toUInt32 >>> ((24 : Int32) &&& 31).toUInt32).toInt32) &&& (255 : Int32)) = y0
  show own_Go X0 (Q0 Z p0 p1 p2 p3 h0 n0) 1 4 18 #[.val (.int p0), .val (.int p1), .val (.int p2), .val (.int p3), .val (.int ln), .val (.int y0), .unset, .unset, .unset, .unset, .unset, .unset, .unset, .unset, .unset] []
  refine own_st (fun _ k => XS.iloadN X0.here hx rfl (hb hby at_18) rfl k) ?_
  show own_Go X0 (Q0 Z p0 p1 p2 p3 h0 n0) 1 4 19 #[.val (.int p0), .val (.int p1), .val (.int p2), .val (.int p3), .val (.int ln), .val (.int y0), .unset, .unset, .unset, .unset, .unset, .unset, .unset, .unset, .unset] [(.int p0)]
  refine own_st (fun _ k => XS.bipush X0.here hx rfl (hb hby at_19) k) ?_
  show own_Go X0 (Q0 Z p0 p1 p2 p3 h0 n0) 1 4 21 #[.val (.int p0), .val (.int p1), .val (.int p2), .val (.int p3), .val (.int ln), .val (.int y0), .unset, .unset, .unset, .unset, .unset, .unset, .unset, .unset, .unset] [(.int (16 : Int32)), (.int p0)]
  refine own_st (fun _ k => XS.iushr X0.here hx rfl (hb hby at_21) rfl k) ?_
  show own_Go X0 (Q0 Z p0 p1 p2 p3 h0 n0) 1 4 22 #[.val (.int p0), .val (.int p1), .val (.int p2), .val (.int p3), .val (.int ln), .val (.int y0), .unset, .unset, .unset, .unset, .unset, .unset, .unset, .unset, .unset] [(.int ((p0.toUInt32 >>> ((16 : Int32) &&& 31).toUInt32).toInt32))]
  refine own_st (fun _ k => XS.sipush X0.here hx rfl (hb hby at_22) k) ?_
  show own_Go X0 (Q0 Z p0 p1 p2 p3 h0 n0) 1 4 25 #[.val (.int p0), .val (.int p1), .val (.int p2), .val (.int p3), .val (.int ln), .val (.int y0), .unset, .unset, .unset, .unset, .unset, .unset, .unset, .unset, .unset] [(.int (255 : Int32)), (.int ((p0.toUInt32 >>> ((16 : Int32) &&& 31).toUInt32).toInt32))]
  refine own_st (fun _ k => XS.iand X0.here hx rfl (hb hby at_25) rfl k) ?_
  show own_Go X0 (Q0 Z p0 p1 p2 p3 h0 n0) 1 4 26 #[.val (.int p0), .val (.int p1), .val (.int p2), .val (.int p3), .val (.int ln), .val (.int y0), .unset, .unset, .unset, .unset, .unset, .unset, .unset, .unset, .unset] [(.int (((p0.toUInt32 >>> ((16 : Int32) &&& 31).toUInt32).toInt32) &&& (255 : Int32)))]
  refine own_st (fun _ k => XS.istore X0.here hx rfl (hb hby at_26) rfl (l' := #[.val (.int p0), .val (.int p1), .val (.int p2), .val (.int p3), .val (.int ln), .val (.int y0), .val (.int (((p0.toUInt32 >>> ((16 : Int32) &&& 31).toUInt32).toInt32) &&& (255 : Int32))), .unset, .unset, .unset, .unset, .unset, .unset, .unset, .unset]) rfl k) ?_
  show own_Go X0 (Q0 Z p0 p1 p2 p3 h0 n0) 1 4 28 #[.val (.int p0), .val (.int p1), .val (.int p2), .val (.int p3), .val (.int ln), .val (.int y0), .val (.int (((p0.toUInt32 >>> ((16 : Int32) &&& 31).toUInt32).toInt32) &&& (255 : Int32))), .unset, .unset, .unset, .unset, .unset, .unset, .unset, .unset] []
  generalize hy1 : (((p0.toUInt32 >>> ((16 : Int32) &&& 31).toUInt32).toInt32) &&& (255 : Int32)) = y1
  show own_Go X0 (Q0 Z p0 p1 p2 p3 h0 n0) 1 4 28 #[.val (.int p0), .val (.int p1), .val (.int p2), .val (.int p3), .val (.int ln), .val (.int y0), .val (.int y1), .unset, .unset, .unset, .unset, .unset, .unset, .unset, .unset] []
  refine own_st (fun _ k => XS.iloadN X0.here hx rfl (hb hby at_28) rfl k) ?_
  show own_Go X0 (Q0 Z p0 p1 p2 p3 h0 n0) 1 4 29 #[.val (.int p0), .val (.int p1), .val (.int p2), .val (.int p3), .val (.int ln), .val (.int y0), .val (.int y1), .unset, .unset, .unset, .unset, .unset, .unset, .unset, .unset] [(.int p0)]
  refine own_st (fun _ k => XS.bipush X0.here hx rfl (hb hby at_29) k) ?_
  show own_Go X0 (Q0 Z p0 p1 p2 p3 h0 n0) 1 4 31 #[.val (.int p0), .val (.int p1), .val (.int p2), .val (.int p3), .val (.int ln), .val (.int y0), .val (.int y1), .unset, .unset, .unset, .unset, .unset, .unset, .unset, .unset] [(.int (8 : Int32)), (.int p0)]
  refine own_st (fun _ k => XS.iushr X0.here hx rfl (hb hby at_31) rfl k) ?_
  show own_Go X0 (Q0 Z p0 p1 p2 p3 h0 n0) 1 4 32 #[.val (.int p0), .val (.int p1), .val (.int p2), .val (.int p3), .val (.int ln), .val (.int y0), .val (.int y1), .unset, .unset, .unset, .unset, .unset, .unset, .unset, .unset] [(.int ((p0.toUInt32 >>> ((8 : Int32) &&& 31).toUInt32).toInt32))]
  refine own_st (fun _ k => XS.sipush X0.here hx rfl (hb hby at_32) k) ?_
  show own_Go X0 (Q0 Z p0 p1 p2 p3 h0 n0) 1 4 35 #[.val (.int p0), .val (.int p1), .val (.int p2), .val (.int p3), .val (.int ln), .val (.int y0), .val (.int y1), .unset, .unset, .unset, .unset, .unset, .unset, .unset, .unset] [(.int (255 : Int32)), (.int ((p0.toUInt32 >>> ((8 : Int32) &&& 31).toUInt32).toInt32))]
  refine own_st (fun _ k => XS.iand X0.here hx rfl (hb hby at_35) rfl k) ?_
  show own_Go X0 (Q0 Z p0 p1 p2 p3 h0 n0) 1 4 36 #[.val (.int p0), .val (.int p1), .val (.int p2), .val (.int p3), .val (.int ln), .val (.int y0), .val (.int y1), .unset, .unset, .unset, .unset, .unset, .unset, .unset, .unset] [(.int (((p0.toUInt32 >>> ((8 : Int32) &&& 31).toUInt32).toInt32) &&& (255 : Int32)))]
  refine own_st (fun _ k => XS.istore X0.here hx rfl (hb hby at_36) rfl (l' := #[.val (.int p0), .val (.int p1), .val (.int p2), .val (.int p3), .val (.int ln), .val (.int y0), .val (.int y1), .val (.int (((p0.toUInt32 >>> ((8 : Int32) &&& 31).toUInt32).toInt32) &&& (255 : Int32))), .unset, .unset, .unset, .unset, .unset, .unset, .unset]) rfl k) ?_
  show own_Go X0 (Q0 Z p0 p1 p2 p3 h0 n0) 1 4 38 #[.val (.int p0), .val (.int p1), .val (.int p2), .val (.int p3), .val (.int ln), .val (.int y0), .val (.int y1), .val (.int (((p0.toUInt32 >>> ((8 : Int32) &&& 31).toUInt32).toInt32) &&& (255 : Int32))), .unset, .unset, .unset, .unset, .unset, .unset, .unset] []
  generalize hy2 : (((p0.toUInt32 >>> ((8 : Int32) &&& 31).toUInt32).toInt32) &&& (255 : Int32)) = y2
  show own_Go X0 (Q0 Z p0 p1 p2 p3 h0 n0) 1 4 38 #[.val (.int p0), .val (.int p1), .val (.int p2), .val (.int p3), .val (.int ln), .val (.int y0), .val (.int y1), .val (.int y2), .unset, .unset, .unset, .unset, .unset, .unset, .unset] []
  refine own_st (fun _ k => XS.iloadN X0.here hx rfl (hb hby at_38) rfl k) ?_
  show own_Go X0 (Q0 Z p0 p1 p2 p3 h0 n0) 1 4 39 #[.val (.int p0), .val (.int p1), .val (.int p2), .val (.int p3), .val (.int ln), .val (.int y0), .val (.int y1), .val (.int y2), .unset, .unset, .unset, .unset, .unset, .unset, .unset] [(.int p0)]
  refine own_st (fun _ k => XS.sipush X0.here hx rfl (hb hby at_39) k) ?_
  show own_Go X0 (Q0 Z p0 p1 p2 p3 h0 n0) 1 4 42 #[.val (.int p0), .val (.int p1), .val (.int p2), .val (.int p3), .val (.int ln), .val (.int y0), .val (.int y1), .val (.int y2), .unset, .unset, .unset, .unset, .unset, .unset, .unset] [(.int (255 : Int32)), (.int p0)]
  refine own_st (fun _ k => XS.iand X0.here hx rfl (hb hby at_42) rfl k) ?_
  show own_Go X0 (Q0 Z p0 p1 p2 p3 h0 n0) 1 4 43 #[.val (.int p0), .val (.int p1), .val (.int p2), .val (.int p3), .val (.int ln), .val (.int y0), .val (.int y1), .val (.int y2), .unset, .unset, .unset, .unset, .unset, .unset, .unset] [(.int (p0 &&& (255 : Int32)))]
  refine own_st (fun _ k => XS.istore X0.here hx rfl (hb hby at_43) rfl (l' := #[.val (.int p0), .val (.int p1), .val (.int p2), .val (.int p3), .val (.int ln), .val (.int y0), .val (.int y1), .val (.int y2), .val (.int (p0 &&& (255 : Int32))), .unset, .unset, .unset, .unset, .unset, .unset]) rfl k) ?_
  show own_Go X0 (Q0 Z p0 p1 p2 p3 h0 n0) 1 4 45 #[.val (.int p0), .val (.int p1), .val (.int p2), .val (.int p3), .val (.int ln), .val (.int y0), .val (.int y1), .val (.int y2), .val (.int (p0 &&& (255 : Int32))), .unset, .unset, .unset, .unset, .unset, .unset] []
  generalize hy3 : (p0 &&& (255 : Int32)) = y3
  show own_Go X0 (Q0 Z p0 p1 p2 p3 h0 n0) 1 4 45 #[.val (.int p0), .val (.int p1), .val (.int p2), .val (.int p3), .val (.int ln), .val (.int y0), .val (.int y1), .val (.int y2), .val (.int y3), .unset, .unset, .unset, .unset, .unset, .unset] []
  refine own_st (fun _ k => XS.iconst X0.here hx rfl (hb hby at_45) k) ?_
  show own_Go X0 (Q0 Z p0 p1 p2 p3 h0 n0) 1 4 46 #[.val (.int p0), .val (.int p1), .val (.int p2), .val (.int p3), .val (.int ln), .val (.int y0), .val (.int y1), .val (.int y2), .val (.int y3), .unset, .unset, .unset, .unset, .unset, .unset] [(.int (4 : Int32))]
  obtain ⟨T1, h1, k1, X1, e1, E1, A1, st1⟩ := newP X0 hx hZ (hw _ (List.mem_of_getElem? (i := 0) rfl)) e0 (g := (mkF m 46 #[.val (.int p0), .val (.int p1), .val (.int p2), .val (.int p3), .val (.int ln), .val (.int y0), .val (.int y1), .val (.int y2), .val (.int y3), .unset, .unset, .unset, .unset, .unset, .unset] [(.int (4 : Int32))])) rfl (hb hby at_46) rfl (by decide) (cap := 4) (by decide) (by decide) (by decide) (by decide)
  obtain ⟨b1, g1⟩ : ∃ z, z = h0.size := ⟨_, rfl⟩
  rw [← g1] at A1 st1
  refine own_st st1 ?_
  have G_2 := Nat.le_trans Z0 (Nat.le_of_eq g1.symm)
  have Z_3 := Nat.le_trans Z0 E1.1
  have V1 : Arv Z h1 b1 k1 .byte (4 : Int32) [(.int (0 : Int32)), (.int (0 : Int32)), (.int (0 : Int32)), (.int (0 : Int32))] (.int (0 : Int32)) := (Arv.new A1 (by decide)).pad (pad_rep [] (.int (0 : Int32)) 4)
  show own_Go X1 (Q0 Z p0 p1 p2 p3 h0 n0) 1 4 48 #[.val (.int p0), .val (.int p1), .val (.int p2), .val (.int p3), .val (.int ln), .val (.int y0), .val (.int y1), .val (.int y2), .val (.int y3), .unset, .unset, .unset, .unset, .unset, .unset] [(.ref b1)]
  refine own_st (fun _ k => XS.astore X1.here hx rfl (hb hby at_48) rfl rfl (l' := #[.val (.int p0), .val (.int p1), .val (.int p2), .val (.int p3), .val (.int ln), .val (.int y0), .val (.int y1), .val (.int y2), .val (.int y3), .val (.ref b1), .unset, .unset, .unset, .unset, .unset]) rfl k) ?_
  show own_Go X1 (Q0 Z p0 p1 p2 p3 h0 n0) 1 4 50 #[.val (.int p0), .val (.int p1), .val (.int p2), .val (.int p3), .val (.int ln), .val (.int y0), .val (.int y1), .val (.int y2), .val (.int y3), .val (.ref b1), .unset, .unset, .unset, .unset, .unset] []
  refine own_st (fun _ k => XS.aload X1.here hx rfl (hb hby at_50) rfl rfl k) ?_
  show own_Go X1 (Q0 Z p0 p1 p2 p3 h0 n0) 1 4 52 #[.val (.int p0), .val (.int p1), .val (.int p2), .val (.int p3), .val (.int ln), .val (.int y0), .val (.int y1), .val (.int y2), .val (.int y3), .val (.ref b1), .unset, .unset, .unset, .unset, .unset] [(.ref b1)]
  refine own_st (fun _ k => XS.iconst X1.here hx rfl (hb hby at_52) k) ?_
  show own_Go X1 (Q0 Z p0 p1 p2 p3 h0 n0) 1 4 53 #[.val (.int p0), .val (.int p1), .val (.int p2), .val (.int p3), .val (.int ln), .val (.int y0), .val (.int y1), .val (.int y2), .val (.int y3), .val (.ref b1), .unset, .unset, .unset, .unset, .unset] [(.int (0 : Int32)), (.ref b1)]
  refine own_st (fun _ k => XS.iload X1.here hx rfl (hb hby at_53) rfl k) ?_
  show own_Go X1 (Q0 Z p0 p1 p2 p3 h0 n0) 1 4 55 #[.val (.int p0), .val (.int p1), .val (.int p2), .val (.int p3), .val (.int ln), .val (.int y0), .val (.int y1), .val (.int y2), .val (.int y3), .val (.ref b1), .unset, .unset, .unset, .unset, .unset] [(.int y0), (.int (0 : Int32)), (.ref b1)]
  refine own_st (fun _ k => XS.i2b X1.here hx rfl (hb hby at_55) rfl k) ?_
  show own_Go X1 (Q0 Z p0 p1 p2 p3 h0 n0) 1 4 56 #[.val (.int p0), .val (.int p1), .val (.int p2), .val (.int p3), .val (.int ln), .val (.int y0), .val (.int y1), .val (.int y2), .val (.int y3), .val (.ref b1), .unset, .unset, .unset, .unset, .unset] [(.int (y0.toInt8.toInt32)), (.int (0 : Int32)), (.ref b1)]
  obtain ⟨T4, h4, X4, e4, W4, V4, st4⟩ := own_stB X1 hx hZ e1 V1 (j := (0 : Int32)) ⟨by decide, by decide⟩ (Nat.le_of_ble_eq_true rfl) (g := (mkF m 56 #[.val (.int p0), .val (.int p1), .val (.int p2), .val (.int p3), .val (.int ln), .val (.int y0), .val (.int y1), .val (.int y2), .val (.int y3), .val (.ref b1), .unset, .unset, .unset, .unset, .unset] [(.int (y0.toInt8.toInt32)), (.int (0 : Int32)), (.ref b1)])) rfl rfl (hb hby at_56)
  refine own_st st4 ?_
  have Z_5 := Nat.le_trans Z_3 (Nat.le_of_eq W4.size.symm)
  have U4 : Arv Z h4 b1 k1 .byte (4 : Int32) [(.int (y0.toInt8.toInt32).toInt8.toInt32), (.int (0 : Int32)), (.int (0 : Int32)), (.int (0 : Int32))] (.int (0 : Int32)) := V4
  have N_6 := Fr.snoc X4 N0 G_2
  show own_Go X4 (Q0 Z p0 p1 p2 p3 h0 n0) 1 4 57 #[.val (.int p0), .val (.int p1), .val (.int p2), .val (.int p3), .val (.int ln), .val (.int y0), .val (.int y1), .val (.int y2), .val (.int y3), .val (.ref b1), .unset, .unset, .unset, .unset, .unset] []
  refine own_st (fun _ k => XS.aload X4.here hx rfl (hb hby at_57) rfl rfl k) ?_
  show own_Go X4 (Q0 Z p0 p1 p2 p3 h0 n0) 1 4 59 #[.val (.int p0), .val (.int p1), .val (.int p2), .val (.int p3), .val (.int ln), .val (.int y0), .val (.int y1), .val (.int y2), .val (.int y3), .val (.ref b1), .unset, .unset, .unset, .unset, .unset] [(.ref b1)]
  refine own_st (fun _ k => XS.iconst X4.here hx rfl (hb hby at_59) k) ?_
  show own_Go X4 (Q0 Z p0 p1 p2 p3 h0 n0) 1 4 60 #[.val (.int p0), .val (.int p1), .val (.int p2), .val (.int p3), .val (.int ln), .val (.int y0), .val (.int y1), .val (.int y2), .val (.int y3), .val (.ref b1), .unset, .unset, .unset, .unset, .unset] [(.int (1 : Int32)), (.ref b1)]
  refine own_st (fun _ k => XS.iload X4.here hx rfl (hb hby at_60) rfl k) ?_
  show own_Go X4 (Q0 Z p0 p1 p2 p3 h0 n0) 1 4 62 #[.val (.int p0), .val (.int p1), .val (.int p2), .val (.int p3), .val (.int ln), .val (.int y0), .val (.int y1), .val (.int y2), .val (.int y3), .val (.ref b1), .unset, .unset, .unset, .unset, .unset] [(.int y1), (.int (1 : Int32)), (.ref b1)]
  refine own_st (fun _ k => XS.i2b X4.here hx rfl (hb hby at_62) rfl k) ?_
  show own_Go X4 (Q0 Z p0 p1 p2 p3 h0 n0) 1 4 63 #[.val (.int p0), .val (.int p1), .val (.int p2), .val (.int p3), .val (.int ln), .val (.int y0), .val (.int y1), .val (.int y2), .val (.int y3), .val (.ref b1), .unset, .unset, .unset, .unset, .unset] [(.int (y1.toInt8.toInt32)), (.int (1 : Int32)), (.ref b1)]
  obtain ⟨T7, h7, X7, e7, W7, V7, st7⟩ := own_stB X4 hx hZ e4 U4 (j := (1 : Int32)) ⟨by decide, by decide⟩ (Nat.le_of_ble_eq_true rfl) (g := (mkF m 63 #[.val (.int p0), .val (.int p1), .val (.int p2), .val (.int p3), .val (.int ln), .val (.int y0), .val (.int y1), .val (.int y2), .val (.int y3), .val (.ref b1), .unset, .unset, .unset, .unset, .unset] [(.int (y1.toInt8.toInt32)), (.int (1 : Int32)), (.ref b1)])) rfl rfl (hb hby at_63)
  refine own_st st7 ?_
  have Z_8 := Nat.le_trans Z_5 (Nat.le_of_eq W7.size.symm)
  have U7 : Arv Z h7 b1 k1 .byte (4 : Int32) [(.int (y0.toInt8.toInt32).toInt8.toInt32), (.int (y1.toInt8.toInt32).toInt8.toInt32), (.int (0 : Int32)), (.int (0 : Int32))] (.int (0 : Int32)) := V7
  have N_9 := Fr.snoc X7 N_6 G_2
  show own_Go X7 (Q0 Z p0 p1 p2 p3 h0 n0) 1 4 64 #[.val (.int p0), .val (.int p1), .val (.int p2), .val (.int p3), .val (.int ln), .val (.int y0), .val (.int y1), .val (.int y2), .val (.int y3), .val (.ref b1), .unset, .unset, .unset, .unset, .unset] []
  refine own_st (fun _ k => XS.aload X7.here hx rfl (hb hby at_64) rfl rfl k) ?_
  show own_Go X7 (Q0 Z p0 p1 p2 p3 h0 n0) 1 4 66 #[.val (.int p0), .val (.int p1), .val (.int p2), .val (.int p3), .val (.int ln), .val (.int y0), .val (.int y1), .val (.int y2), .val (.int y3), .val (.ref b1), .unset, .unset, .unset, .unset, .unset] [(.ref b1)]
  refine own_st (fun _ k => XS.iconst X7.here hx rfl (hb hby at_66) k) ?_
  show own_Go X7 (Q0 Z p0 p1 p2 p3 h0 n0) 1 4 67 #[.val (.int p0), .val (.int p1), .val (.int p2), .val (.int p3), .val (.int ln), .val (.int y0), .val (.int y1), .val (.int y2), .val (.int y3), .val (.ref b1), .unset, .unset, .unset, .unset, .unset] [(.int (2 : Int32)), (.ref b1)]
  refine own_st (fun _ k => XS.iload X7.here hx rfl (hb hby at_67) rfl k) ?_
  show own_Go X7 (Q0 Z p0 p1 p2 p3 h0 n0) 1 4 69 #[.val (.int p0), .val (.int p1), .val (.int p2), .val (.int p3), .val (.int ln), .val (.int y0), .val (.int y1), .val (.int y2), .val (.int y3), .val (.ref b1), .unset, .unset, .unset, .unset, .unset] [(.int y2), (.int (2 : Int32)), (.ref b1)]
  refine own_st (fun _ k => XS.i2b X7.here hx rfl (hb hby at_69) rfl k) ?_
  show own_Go X7 (Q0 Z p0 p1 p2 p3 h0 n0) 1 4 70 #[.val (.int p0), .val (.int p1), .val (.int p2), .val (.int p3), .val (.int ln), .val (.int y0), .val (.int y1), .val (.int y2), .val (.int y3), .val (.ref b1), .unset, .unset, .unset, .unset, .unset] [(.int (y2.toInt8.toInt32)), (.int (2 : Int32)), (.ref b1)]
  obtain ⟨T10, h10, X10, e10, W10, V10, st10⟩ := own_stB X7 hx hZ e7 U7 (j := (2 : Int32)) ⟨by decide, by decide⟩ (Nat.le_of_ble_eq_true rfl) (g := (mkF m 70 #[.val (.int p0), .val (.int p1), .val (.int p2), .val (.int p3), .val (.int ln), .val (.int y0), .val (.int y1), .val (.int y2), .val (.int y3), .val (.ref b1), .unset, .unset, .unset, .unset, .unset] [(.int (y2.toInt8.toInt32)), (.int (2 : Int32)), (.ref b1)])) rfl rfl (hb hby at_70)
  refine own_st st10 ?_
  have Z_11 := Nat.le_trans Z_8 (Nat.le_of_eq W10.size.symm)
  have U10 : Arv Z h10 b1 k1 .byte (4 : Int32) [(.int (y0.toInt8.toInt32).toInt8.toInt32), (.int (y1.toInt8.toInt32).toInt8.toInt32), (.int (y2.toInt8.toInt32).toInt8.toInt32), (.int (0 : Int32))] (.int (0 : Int32)) := V10
  have N_12 := Fr.snoc X10 N_9 G_2
  show own_Go X10 (Q0 Z p0 p1 p2 p3 h0 n0) 1 4 71 #[.val (.int p0), .val (.int p1), .val (.int p2), .val (.int p3), .val (.int ln), .val (.int y0), .val (.int y1), .val (.int y2), .val (.int y3), .val (.ref b1), .unset, .unset, .unset, .unset, .unset] []
  refine own_st (fun _ k => XS.aload X10.here hx rfl (hb hby at_71) rfl rfl k) ?_
  show own_Go X10 (Q0 Z p0 p1 p2 p3 h0 n0) 1 4 73 #[.val (.int p0), .val (.int p1), .val (.int p2), .val (.int p3), .val (.int ln), .val (.int y0), .val (.int y1), .val (.int y2), .val (.int y3), .val (.ref b1), .unset, .unset, .unset, .unset, .unset] [(.ref b1)]
  refine own_st (fun _ k => XS.iconst X10.here hx rfl (hb hby at_73) k) ?_
  show own_Go X10 (Q0 Z p0 p1 p2 p3 h0 n0) 1 4 74 #[.val (.int p0), .val (.int p1), .val (.int p2), .val (.int p3), .val (.int ln), .val (.int y0), .val (.int y1), .val (.int y2), .val (.int y3), .val (.ref b1), .unset, .unset, .unset, .unset, .unset] [(.int (3 : Int32)), (.ref b1)]
  refine own_st (fun _ k => XS.iload X10.here hx rfl (hb hby at_74) rfl k) ?_
  show own_Go X10 (Q0 Z p0 p1 p2 p3 h0 n0) 1 4 76 #[.val (.int p0), .val (.int p1), .val (.int p2), .val (.int p3), .val (.int ln), .val (.int y0), .val (.int y1), .val (.int y2), .val (.int y3), .val (.ref b1), .unset, .unset, .unset, .unset, .unset] [(.int y3), (.int (3 : Int32)), (.ref b1)]
  refine own_st (fun _ k => XS.i2b X10.here hx rfl (hb hby at_76) rfl k) ?_
  show own_Go X10 (Q0 Z p0 p1 p2 p3 h0 n0) 1 4 77 #[.val (.int p0), .val (.int p1), .val (.int p2), .val (.int p3), .val (.int ln), .val (.int y0), .val (.int y1), .val (.int y2), .val (.int y3), .val (.ref b1), .unset, .unset, .unset, .unset, .unset] [(.int (y3.toInt8.toInt32)), (.int (3 : Int32)), (.ref b1)]
  obtain ⟨T13, h13, X13, e13, W13, V13, st13⟩ := own_stB X10 hx hZ e10 U10 (j := (3 : Int32)) ⟨by decide, by decide⟩ (Nat.le_of_ble_eq_true rfl) (g := (mkF m 77 #[.val (.int p0), .val (.int p1), .val (.int p2), .val (.int p3), .val (.int ln), .val (.int y0), .val (.int y1), .val (.int y2), .val (.int y3), .val (.ref b1), .unset, .unset, .unset, .unset, .unset] [(.int (y3.toInt8.toInt32)), (.int (3 : Int32)), (.ref b1)])) rfl rfl (hb hby at_77)
  refine own_st st13 ?_
  have Z_14 := Nat.le_trans Z_11 (Nat.le_of_eq W13.size.symm)
  have U13 : Arv Z h13 b1 k1 .byte (4 : Int32) [(.int (y0.toInt8.toInt32).toInt8.toInt32), (.int (y1.toInt8.toInt32).toInt8.toInt32), (.int (y2.toInt8.toInt32).toInt8.toInt32), (.int (y3.toInt8.toInt32).toInt8.toInt32)] (.int (0 : Int32)) := V13
  have N_15 := Fr.snoc X13 N_12 G_2
  show own_Go X13 (Q0 Z p0 p1 p2 p3 h0 n0) 1 4 78 #[.val (.int p0), .val (.int p1), .val (.int p2), .val (.int p3), .val (.int ln), .val (.int y0), .val (.int y1), .val (.int y2), .val (.int y3), .val (.ref b1), .unset, .unset, .unset, .unset, .unset] []
  refine own_st (fun _ k => XS.iloadN X13.here hx rfl (hb hby at_78) rfl k) ?_
  show own_Go X13 (Q0 Z p0 p1 p2 p3 h0 n0) 1 4 79 #[.val (.int p0), .val (.int p1), .val (.int p2), .val (.int p3), .val (.int ln), .val (.int y0), .val (.int y1), .val (.int y2), .val (.int y3), .val (.ref b1), .unset, .unset, .unset, .unset, .unset] [(.int p3)]
  refine own_st (fun _ k => XS.iconst X13.here hx rfl (hb hby at_79) k) ?_
  show own_Go X13 (Q0 Z p0 p1 p2 p3 h0 n0) 1 4 80 #[.val (.int p0), .val (.int p1), .val (.int p2), .val (.int p3), .val (.int ln), .val (.int y0), .val (.int y1), .val (.int y2), .val (.int y3), .val (.ref b1), .unset, .unset, .unset, .unset, .unset] [(.int (1 : Int32)), (.int p3)]
  refine own_st (fun _ k => XS.iand X13.here hx rfl (hb hby at_80) rfl k) ?_
  show own_Go X13 (Q0 Z p0 p1 p2 p3 h0 n0) 1 4 81 #[.val (.int p0), .val (.int p1), .val (.int p2), .val (.int p3), .val (.int ln), .val (.int y0), .val (.int y1), .val (.int y2), .val (.int y3), .val (.ref b1), .unset, .unset, .unset, .unset, .unset] [(.int (p3 &&& (1 : Int32)))]
  have J95 : ∀ (bt : Int32) (hbt : 0 ≤ bt.toInt), own_Go X13 (Q0 Z p0 p1 p2 p3 h0 n0) 1 4 95 #[.val (.int p0), .val (.int p1), .val (.int p2), .val (.int p3), .val (.int ln), .val (.int y0), .val (.int y1), .val (.int y2), .val (.int y3), .val (.ref b1), .unset, .unset, .unset, .unset, .unset] [(.int bt)] := by
    intro bt hbt
    refine own_st (fun _ k => XS.istore X13.here hx rfl (hb hby at_95) rfl (l' := #[.val (.int p0), .val (.int p1), .val (.int p2), .val (.int p3), .val (.int ln), .val (.int y0), .val (.int y1), .val (.int y2), .val (.int y3), .val (.ref b1), .val (.int bt), .unset, .unset, .unset, .unset]) rfl k) ?_
    show own_Go X13 (Q0 Z p0 p1 p2 p3 h0 n0) 1 4 97 #[.val (.int p0), .val (.int p1), .val (.int p2), .val (.int p3), .val (.int ln), .val (.int y0), .val (.int y1), .val (.int y2), .val (.int y3), .val (.ref b1), .val (.int bt), .unset, .unset, .unset, .unset] []
    refine own_st (fun _ k => XS.lconst X13.here hx rfl (hb hby at_97) k) ?_
    show own_Go X13 (Q0 Z p0 p1 p2 p3 h0 n0) 1 4 98 #[.val (.int p0), .val (.int p1), .val (.int p2), .val (.int p3), .val (.int ln), .val (.int y0), .val (.int y1), .val (.int y2), .val (.int y3), .val (.ref b1), .val (.int bt), .unset, .unset, .unset, .unset] [(.long (0 : Int64))]
    refine own_st (fun _ k => XS.lstore X13.here hx rfl (hb hby at_98) rfl (l' := #[.val (.int p0), .val (.int p1), .val (.int p2), .val (.int p3), .val (.int ln), .val (.int y0), .val (.int y1), .val (.int y2), .val (.int y3), .val (.ref b1), .val (.int bt), .val (.long (0 : Int64)), .second, .unset, .unset]) rfl k) ?_
    show own_Go X13 (Q0 Z p0 p1 p2 p3 h0 n0) 1 4 100 #[.val (.int p0), .val (.int p1), .val (.int p2), .val (.int p3), .val (.int ln), .val (.int y0), .val (.int y1), .val (.int y2), .val (.int y3), .val (.ref b1), .val (.int bt), .val (.long (0 : Int64)), .second, .unset, .unset] []
    rcases own_len5 hln with rfl | rfl | rfl | rfl | rfl
    · skip
      show own_Go X13 (Q0 Z p0 p1 p2 p3 h0 n0) 1 4 100 #[.val (.int p0), .val (.int p1), .val (.int p2), .val (.int p3), .val (.int (0 : Int32)), .val (.int y0), .val (.int y1), .val (.int y2), .val (.int y3), .val (.ref b1), .val (.int bt), .val (.long (0 : Int64)), .second, .unset, .unset] []
      refine own_st (fun _ k => XS.iload X13.here hx rfl (hb hby at_100) rfl k) ?_
      show own_Go X13 (Q0 Z p0 p1 p2 p3 h0 n0) 1 4 102 #[.val (.int p0), .val (.int p1), .val (.int p2), .val (.int p3), .val (.int (0 : Int32)), .val (.int y0), .val (.int y1), .val (.int y2), .val (.int y3), .val (.ref b1), .val (.int bt), .val (.long (0 : Int64)), .second, .unset, .unset] [(.int (0 : Int32))]
      have c102_16 : ¬ ((0 : Int32) < (0 : Int32)) := (by decide)
      refine own_st (fun _ k => XS.ifYes X13.here hx rfl (pc0 := 102) (pc' := 110) rfl (hb hby at_102) rfl ((if0 _ _).trans (flt c102_16).2.2.2) (by decide) (by decide) k) ?_
      show own_Go X13 (Q0 Z p0 p1 p2 p3 h0 n0) 1 4 110 #[.val (.int p0), .val (.int p1), .val (.int p2), .val (.int p3), .val (.int (0 : Int32)), .val (.int y0), .val (.int y1), .val (.int y2), .val (.int y3), .val (.ref b1), .val (.int bt), .val (.long (0 : Int64)), .second, .unset, .unset] []
      refine own_st (fun _ k => XS.iload X13.here hx rfl (hb hby at_110) rfl k) ?_
      show own_Go X13 (Q0 Z p0 p1 p2 p3 h0 n0) 1 4 112 #[.val (.int p0), .val (.int p1), .val (.int p2), .val (.int p3), .val (.int (0 : Int32)), .val (.int y0), .val (.int y1), .val (.int y2), .val (.int y3), .val (.ref b1), .val (.int bt), .val (.long (0 : Int64)), .second, .unset, .unset] [(.int (0 : Int32))]
      refine own_st (fun _ k => XS.iconst X13.here hx rfl (hb hby at_112) k) ?_
      show own_Go X13 (Q0 Z p0 p1 p2 p3 h0 n0) 1 4 113 #[.val (.int p0), .val (.int p1), .val (.int p2), .val (.int p3), .val (.int (0 : Int32)), .val (.int y0), .val (.int y1), .val (.int y2), .val (.int y3), .val (.ref b1), .val (.int bt), .val (.long (0 : Int64)), .second, .unset, .unset] [(.int (1 : Int32)), (.int (0 : Int32))]
      have c113_17 : ¬ ((1 : Int32) < (0 : Int32)) := (by decide)
      refine own_st (fun _ k => XS.icmpYes X13.here hx rfl (pc0 := 113) (pc' := 128) rfl (hb hby at_113) rfl (flt c113_17).2.2.2 (by decide) (by decide) k) ?_
      show own_Go X13 (Q0 Z p0 p1 p2 p3 h0 n0) 1 4 128 #[.val (.int p0), .val (.int p1), .val (.int p2), .val (.int p3), .val (.int (0 : Int32)), .val (.int y0), .val (.int y1), .val (.int y2), .val (.int y3), .val (.ref b1), .val (.int bt), .val (.long (0 : Int64)), .second, .unset, .unset] []
      refine own_st (fun _ k => XS.iload X13.here hx rfl (hb hby at_128) rfl k) ?_
      show own_Go X13 (Q0 Z p0 p1 p2 p3 h0 n0) 1 4 130 #[.val (.int p0), .val (.int p1), .val (.int p2), .val (.int p3), .val (.int (0 : Int32)), .val (.int y0), .val (.int y1), .val (.int y2), .val (.int y3), .val (.ref b1), .val (.int bt), .val (.long (0 : Int64)), .second, .unset, .unset] [(.int (0 : Int32))]
      refine own_st (fun _ k => XS.iconst X13.here hx rfl (hb hby at_130) k) ?_
      show own_Go X13 (Q0 Z p0 p1 p2 p3 h0 n0) 1 4 131 #[.val (.int p0), .val (.int p1), .val (.int p2), .val (.int p3), .val (.int (0 : Int32)), .val (.int y0), .val (.int y1), .val (.int y2), .val (.int y3), .val (.ref b1), .val (.int bt), .val (.long (0 : Int64)), .second, .unset, .unset] [(.int (2 : Int32)), (.int (0 : Int32))]
      have c131_18 : ¬ ((2 : Int32) < (0 : Int32)) := (by decide)
      refine own_st (fun _ k => XS.icmpYes X13.here hx rfl (pc0 := 131) (pc' := 146) rfl (hb hby at_131) rfl (flt c131_18).2.2.2 (by decide) (by decide) k) ?_
      show own_Go X13 (Q0 Z p0 p1 p2 p3 h0 n0) 1 4 146 #[.val (.int p0), .val (.int p1), .val (.int p2), .val (.int p3), .val (.int (0 : Int32)), .val (.int y0), .val (.int y1), .val (.int y2), .val (.int y3), .val (.ref b1), .val (.int bt), .val (.long (0 : Int64)), .second, .unset, .unset] []
      refine own_st (fun _ k => XS.iload X13.here hx rfl (hb hby at_146) rfl k) ?_
      show own_Go X13 (Q0 Z p0 p1 p2 p3 h0 n0) 1 4 148 #[.val (.int p0), .val (.int p1), .val (.int p2), .val (.int p3), .val (.int (0 : Int32)), .val (.int y0), .val (.int y1), .val (.int y2), .val (.int y3), .val (.ref b1), .val (.int bt), .val (.long (0 : Int64)), .second, .unset, .unset] [(.int (0 : Int32))]
      refine own_st (fun _ k => XS.iconst X13.here hx rfl (hb hby at_148) k) ?_
      show own_Go X13 (Q0 Z p0 p1 p2 p3 h0 n0) 1 4 149 #[.val (.int p0), .val (.int p1), .val (.int p2), .val (.int p3), .val (.int (0 : Int32)), .val (.int y0), .val (.int y1), .val (.int y2), .val (.int y3), .val (.ref b1), .val (.int bt), .val (.long (0 : Int64)), .second, .unset, .unset] [(.int (3 : Int32)), (.int (0 : Int32))]
      have c149_19 : ¬ ((3 : Int32) < (0 : Int32)) := (by decide)
      refine own_st (fun _ k => XS.icmpYes X13.here hx rfl (pc0 := 149) (pc' := 164) rfl (hb hby at_149) rfl (flt c149_19).2.2.2 (by decide) (by decide) k) ?_
      show own_Go X13 (Q0 Z p0 p1 p2 p3 h0 n0) 1 4 164 #[.val (.int p0), .val (.int p1), .val (.int p2), .val (.int p3), .val (.int (0 : Int32)), .val (.int y0), .val (.int y1), .val (.int y2), .val (.int y3), .val (.ref b1), .val (.int bt), .val (.long (0 : Int64)), .second, .unset, .unset] []
      refine own_st (fun _ k => XS.iload X13.here hx rfl (hb hby at_164) rfl k) ?_
      show own_Go X13 (Q0 Z p0 p1 p2 p3 h0 n0) 1 4 166 #[.val (.int p0), .val (.int p1), .val (.int p2), .val (.int p3), .val (.int (0 : Int32)), .val (.int y0), .val (.int y1), .val (.int y2), .val (.int y3), .val (.ref b1), .val (.int bt), .val (.long (0 : Int64)), .second, .unset, .unset] [(.int bt)]
      refine own_st (fun _ k => XS.bipush X13.here hx rfl (hb hby at_166) k) ?_
      show own_Go X13 (Q0 Z p0 p1 p2 p3 h0 n0) 1 4 168 #[.val (.int p0), .val (.int p1), .val (.int p2), .val (.int p3), .val (.int (0 : Int32)), .val (.int y0), .val (.int y1), .val (.int y2), .val (.int y3), .val (.ref b1), .val (.int bt), .val (.long (0 : Int64)), .second, .unset, .unset] [(.int (8 : Int32)), (.int bt)]
      refine own_st (fun _ k => XS.iload X13.here hx rfl (hb hby at_168) rfl k) ?_
      show own_Go X13 (Q0 Z p0 p1 p2 p3 h0 n0) 1 4 170 #[.val (.int p0), .val (.int p1), .val (.int p2), .val (.int p3), .val (.int (0 : Int32)), .val (.int y0), .val (.int y1), .val (.int y2), .val (.int y3), .val (.ref b1), .val (.int bt), .val (.long (0 : Int64)), .second, .unset, .unset] [(.int (0 : Int32)), (.int (8 : Int32)), (.int bt)]
      refine own_st (fun _ k => XS.imul X13.here hx rfl (hb hby at_170) rfl k) ?_
      show own_Go X13 (Q0 Z p0 p1 p2 p3 h0 n0) 1 4 171 #[.val (.int p0), .val (.int p1), .val (.int p2), .val (.int p3), .val (.int (0 : Int32)), .val (.int y0), .val (.int y1), .val (.int y2), .val (.int y3), .val (.ref b1), .val (.int bt), .val (.long (0 : Int64)), .second, .unset, .unset] [(.int (0 : Int32)), (.int bt)]
      by_cases c171_20 : bt < (0 : Int32)
      · skip
        refine own_st (fun _ k => XS.icmpNo X13.here hx rfl (hb hby at_171) rfl (tlt c171_20).2.1 k) ?_
        show own_Go X13 (Q0 Z p0 p1 p2 p3 h0 n0) 1 4 174 #[.val (.int p0), .val (.int p1), .val (.int p2), .val (.int p3), .val (.int (0 : Int32)), .val (.int y0), .val (.int y1), .val (.int y2), .val (.int y3), .val (.ref b1), .val (.int bt), .val (.long (0 : Int64)), .second, .unset, .unset] []
        refine own_st (fun _ k => XS.lload X13.here hx rfl (hb hby at_174) rfl k) ?_
        show own_Go X13 (Q0 Z p0 p1 p2 p3 h0 n0) 1 4 176 #[.val (.int p0), .val (.int p1), .val (.int p2), .val (.int p3), .val (.int (0 : Int32)), .val (.int y0), .val (.int y1), .val (.int y2), .val (.int y3), .val (.ref b1), .val (.int bt), .val (.long (0 : Int64)), .second, .unset, .unset] [(.long (0 : Int64))]
        refine own_st (fun _ k => XS.iload X13.here hx rfl (hb hby at_176) rfl k) ?_
        show own_Go X13 (Q0 Z p0 p1 p2 p3 h0 n0) 1 4 178 #[.val (.int p0), .val (.int p1), .val (.int p2), .val (.int p3), .val (.int (0 : Int32)), .val (.int y0), .val (.int y1), .val (.int y2), .val (.int y3), .val (.ref b1), .val (.int bt), .val (.long (0 : Int64)), .second, .unset, .unset] [(.int bt), (.long (0 : Int64))]
        refine own_st (fun _ k => XS.lushr X13.here hx rfl (hb hby at_178) rfl k) ?_
        show own_Go X13 (Q0 Z p0 p1 p2 p3 h0 n0) 1 4 179 #[.val (.int p0), .val (.int p1), .val (.int p2), .val (.int p3), .val (.int (0 : Int32)), .val (.int y0), .val (.int y1), .val (.int y2), .val (.int y3), .val (.ref b1), .val (.int bt), .val (.long (0 : Int64)), .second, .unset, .unset] [(.long (((0 : Int64).toUInt64 >>> (bt &&& 0x3f).toInt64.toUInt64).toInt64))]
        refine own_st (fun _ k => XS.lconst X13.here hx rfl (hb hby at_179) k) ?_
        show own_Go X13 (Q0 Z p0 p1 p2 p3 h0 n0) 1 4 180 #[.val (.int p0), .val (.int p1), .val (.int p2), .val (.int p3), .val (.int (0 : Int32)), .val (.int y0), .val (.int y1), .val (.int y2), .val (.int y3), .val (.ref b1), .val (.int bt), .val (.long (0 : Int64)), .second, .unset, .unset] [(.long (1 : Int64)), (.long (((0 : Int64).toUInt64 >>> (bt &&& 0x3f).toInt64.toUInt64).toInt64))]
        refine own_st (fun _ k => XS.land X13.here hx rfl (hb hby at_180) rfl k) ?_
        show own_Go X13 (Q0 Z p0 p1 p2 p3 h0 n0) 1 4 181 #[.val (.int p0), .val (.int p1), .val (.int p2), .val (.int p3), .val (.int (0 : Int32)), .val (.int y0), .val (.int y1), .val (.int y2), .val (.int y3), .val (.ref b1), .val (.int bt), .val (.long (0 : Int64)), .second, .unset, .unset] [(.long ((((0 : Int64).toUInt64 >>> (bt &&& 0x3f).toInt64.toUInt64).toInt64) &&& (1 : Int64)))]
        refine own_st (fun _ k => XS.lconst X13.here hx rfl (hb hby at_181) k) ?_
        show own_Go X13 (Q0 Z p0 p1 p2 p3 h0 n0) 1 4 182 #[.val (.int p0), .val (.int p1), .val (.int p2), .val (.int p3), .val (.int (0 : Int32)), .val (.int y0), .val (.int y1), .val (.int y2), .val (.int y3), .val (.ref b1), .val (.int bt), .val (.long (0 : Int64)), .second, .unset, .unset] [(.long (1 : Int64)), (.long ((((0 : Int64).toUInt64 >>> (bt &&& 0x3f).toInt64.toUInt64).toInt64) &&& (1 : Int64)))]
        refine own_st (fun _ k => XS.lcmp X13.here hx rfl (hb hby at_182) rfl k) ?_
        show own_Go X13 (Q0 Z p0 p1 p2 p3 h0 n0) 1 4 183 #[.val (.int p0), .val (.int p1), .val (.int p2), .val (.int p3), .val (.int (0 : Int32)), .val (.int y0), .val (.int y1), .val (.int y2), .val (.int y3), .val (.ref b1), .val (.int bt), .val (.long (0 : Int64)), .second, .unset, .unset] [(.int (lcmpW ((((0 : Int64).toUInt64 >>> (bt &&& 0x3f).toInt64.toUInt64).toInt64) &&& (1 : Int64)) (1 : Int64)))]
        by_cases c183_21 : ((((0 : Int64).toUInt64 >>> (bt &&& 0x3f).toInt64.toUInt64).toInt64) &&& (1 : Int64)) = (1 : Int64)
        · skip
          refine own_st (fun _ k => XS.ifNo X13.here hx rfl (hb hby at_183) rfl ((if0 _ _).trans (teq ((lw_eq _ _).mpr c183_21)).2) k) ?_
          show own_Go X13 (Q0 Z p0 p1 p2 p3 h0 n0) 1 4 186 #[.val (.int p0), .val (.int p1), .val (.int p2), .val (.int p3), .val (.int (0 : Int32)), .val (.int y0), .val (.int y1), .val (.int y2), .val (.int y3), .val (.ref b1), .val (.int bt), .val (.long (0 : Int64)), .second, .unset, .unset] []
          refine own_st (fun _ k => XS.iconst X13.here hx rfl (hb hby at_186) k) ?_
          show own_Go X13 (Q0 Z p0 p1 p2 p3 h0 n0) 1 4 187 #[.val (.int p0), .val (.int p1), .val (.int p2), .val (.int p3), .val (.int (0 : Int32)), .val (.int y0), .val (.int y1), .val (.int y2), .val (.int y3), .val (.ref b1), .val (.int bt), .val (.long (0 : Int64)), .second, .unset, .unset] [(.int (1 : Int32))]
          refine own_st (fun _ k => XS.goto X13.here hx rfl (pc0 := 187) (pc' := 191) rfl (hb hby at_187) (by decide) (by decide) k) ?_
          show own_Go X13 (Q0 Z p0 p1 p2 p3 h0 n0) 1 4 191 #[.val (.int p0), .val (.int p1), .val (.int p2), .val (.int p3), .val (.int (0 : Int32)), .val (.int y0), .val (.int y1), .val (.int y2), .val (.int y3), .val (.ref b1), .val (.int bt), .val (.long (0 : Int64)), .second, .unset, .unset] [(.int (1 : Int32))]
          refine own_st (fun _ k => XS.istore X13.here hx rfl (hb hby at_191) rfl (l' := #[.val (.int p0), .val (.int p1), .val (.int p2), .val (.int p3), .val (.int (0 : Int32)), .val (.int y0), .val (.int y1), .val (.int y2), .val (.int y3), .val (.ref b1), .val (.int bt), .val (.long (0 : Int64)), .second, .val (.int (1 : Int32)), .unset]) rfl k) ?_
          show own_Go X13 (Q0 Z p0 p1 p2 p3 h0 n0) 1 4 193 #[.val (.int p0), .val (.int p1), .val (.int p2), .val (.int p3), .val (.int (0 : Int32)), .val (.int y0), .val (.int y1), .val (.int y2), .val (.int y3), .val (.ref b1), .val (.int bt), .val (.long (0 : Int64)), .second, .val (.int (1 : Int32)), .unset] []
          refine own_st (fun _ k => XS.aload X13.here hx rfl (hb hby at_193) rfl rfl k) ?_
          show own_Go X13 (Q0 Z p0 p1 p2 p3 h0 n0) 1 4 195 #[.val (.int p0), .val (.int p1), .val (.int p2), .val (.int p3), .val (.int (0 : Int32)), .val (.int y0), .val (.int y1), .val (.int y2), .val (.int y3), .val (.ref b1), .val (.int bt), .val (.long (0 : Int64)), .second, .val (.int (1 : Int32)), .unset] [(.ref b1)]
          refine own_st (fun _ k => XS.iload X13.here hx rfl (hb hby at_195) rfl k) ?_
          show own_Go X13 (Q0 Z p0 p1 p2 p3 h0 n0) 1 4 197 #[.val (.int p0), .val (.int p1), .val (.int p2), .val (.int p3), .val (.int (0 : Int32)), .val (.int y0), .val (.int y1), .val (.int y2), .val (.int y3), .val (.ref b1), .val (.int bt), .val (.long (0 : Int64)), .second, .val (.int (1 : Int32)), .unset] [(.int (0 : Int32)), (.ref b1)]
          refine own_st (fun _ k => XS.iload X13.here hx rfl (hb hby at_197) rfl k) ?_
          show own_Go X13 (Q0 Z p0 p1 p2 p3 h0 n0) 1 4 199 #[.val (.int p0), .val (.int p1), .val (.int p2), .val (.int p3), .val (.int (0 : Int32)), .val (.int y0), .val (.int y1), .val (.int y2), .val (.int y3), .val (.ref b1), .val (.int bt), .val (.long (0 : Int64)), .second, .val (.int (1 : Int32)), .unset] [(.int bt), (.int (0 : Int32)), (.ref b1)]
          refine own_callS (W := 0) X13 hx hZ hown (hw _ (List.mem_of_getElem? (i := 3) rfl)) (hw _ (List.mem_of_getElem? (i := 4) rfl)) (hw _ (List.mem_of_getElem? (i := 5) rfl)) (hw _ (List.mem_of_getElem? (i := 6) rfl)) (by decide) (rm1 l Z a0 hw [] b1 (0 : Int32) bt k1 (y0.toInt8.toInt32).toInt8.toInt32 (y1.toInt8.toInt32).toInt8.toInt32 (y2.toInt8.toInt32).toInt8.toInt32 (y3.toInt8.toInt32).toInt8.toInt32 h13 n0 Z_14 U13 (own_ixb (k := (0 : Int32)) (kk := 0) (by decide) (by decide) (by decide) hbt)) (by decide) (by decide) (by rw [hml]; rfl) [(.ref b1), (.int (0 : Int32)), (.int bt)] [] (lenOf pd_0_0 rfl) rfl rfl (Nat.le_of_ble_eq_true rfl) (hb hby at_199) e13 (by decide) (by decide) ?_
          rintro _ T22 L22 X22 ⟨rfl, N22q, e22⟩
          have N_23 := Fr.app N_15 N22q
          show own_Go X22 (Q0 Z p0 p1 p2 p3 h0 n0) 1 4 202 #[.val (.int p0), .val (.int p1), .val (.int p2), .val (.int p3), .val (.int (0 : Int32)), .val (.int y0), .val (.int y1), .val (.int y2), .val (.int y3), .val (.ref b1), .val (.int bt), .val (.long (0 : Int64)), .second, .val (.int (1 : Int32)), .unset] [(.int (own_ib (y0.toInt8.toInt32).toInt8.toInt32 (y1.toInt8.toInt32).toInt8.toInt32 (y2.toInt8.toInt32).toInt8.toInt32 (y3.toInt8.toInt32).toInt8.toInt32 (0 : Int32) bt))]
          refine own_st (fun _ k => XS.istore X22.here hx rfl (hb hby at_202) rfl (l' := #[.val (.int p0), .val (.int p1), .val (.int p2), .val (.int p3), .val (.int (0 : Int32)), .val (.int y0), .val (.int y1), .val (.int y2), .val (.int y3), .val (.ref b1), .val (.int bt), .val (.long (0 : Int64)), .second, .val (.int (1 : Int32)), .val (.int (own_ib (y0.toInt8.toInt32).toInt8.toInt32 (y1.toInt8.toInt32).toInt8.toInt32 (y2.toInt8.toInt32).toInt8.toInt32 (y3.toInt8.toInt32).toInt8.toInt32 (0 : Int32) bt))]) rfl k) ?_
          show own_Go X22 (Q0 Z p0 p1 p2 p3 h0 n0) 1 4 204 #[.val (.int p0), .val (.int p1), .val (.int p2), .val (.int p3), .val (.int (0 : Int32)), .val (.int y0), .val (.int y1), .val (.int y2), .val (.int y3), .val (.ref b1), .val (.int bt), .val (.long (0 : Int64)), .second, .val (.int (1 : Int32)), .val (.int (own_ib (y0.toInt8.toInt32).toInt8.toInt32 (y1.toInt8.toInt32).toInt8.toInt32 (y2.toInt8.toInt32).toInt8.toInt32 (y3.toInt8.toInt32).toInt8.toInt32 (0 : Int32) bt))] []
          refine own_st (fun _ k => XS.iload X22.here hx rfl (hb hby at_204) rfl k) ?_
          show own_Go X22 (Q0 Z p0 p1 p2 p3 h0 n0) 1 4 206 #[.val (.int p0), .val (.int p1), .val (.int p2), .val (.int p3), .val (.int (0 : Int32)), .val (.int y0), .val (.int y1), .val (.int y2), .val (.int y3), .val (.ref b1), .val (.int bt), .val (.long (0 : Int64)), .second, .val (.int (1 : Int32)), .val (.int (own_ib (y0.toInt8.toInt32).toInt8.toInt32 (y1.toInt8.toInt32).toInt8.toInt32 (y2.toInt8.toInt32).toInt8.toInt32 (y3.toInt8.toInt32).toInt8.toInt32 (0 : Int32) bt))] [(.int (own_ib (y0.toInt8.toInt32).toInt8.toInt32 (y1.toInt8.toInt32).toInt8.toInt32 (y2.toInt8.toInt32).toInt8.toInt32 (y3.toInt8.toInt32).toInt8.toInt32 (0 : Int32) bt))]
          refine own_st (fun _ k => XS.iload X22.here hx rfl (hb hby at_206) rfl k) ?_
          show own_Go X22 (Q0 Z p0 p1 p2 p3 h0 n0) 1 4 208 #[.val (.int p0), .val (.int p1), .val (.int p2), .val (.int p3), .val (.int (0 : Int32)), .val (.int y0), .val (.int y1), .val (.int y2), .val (.int y3), .val (.ref b1), .val (.int bt), .val (.long (0 : Int64)), .second, .val (.int (1 : Int32)), .val (.int (own_ib (y0.toInt8.toInt32).toInt8.toInt32 (y1.toInt8.toInt32).toInt8.toInt32 (y2.toInt8.toInt32).toInt8.toInt32 (y3.toInt8.toInt32).toInt8.toInt32 (0 : Int32) bt))] [(.int (1 : Int32)), (.int (own_ib (y0.toInt8.toInt32).toInt8.toInt32 (y1.toInt8.toInt32).toInt8.toInt32 (y2.toInt8.toInt32).toInt8.toInt32 (y3.toInt8.toInt32).toInt8.toInt32 (0 : Int32) bt))]
          have c208_24 : (own_ib (y0.toInt8.toInt32).toInt8.toInt32 (y1.toInt8.toInt32).toInt8.toInt32 (y2.toInt8.toInt32).toInt8.toInt32 (y3.toInt8.toInt32).toInt8.toInt32 (0 : Int32) bt) = (1 : Int32) := absurd (own_ltN (B := 0) (by decide) c171_20) (by omega)
          refine own_st (fun _ k => XS.icmpNo X22.here hx rfl (hb hby at_208) rfl (teq c208_24).2 k) ?_
          show own_Go X22 (Q0 Z p0 p1 p2 p3 h0 n0) 1 4 211 #[.val (.int p0), .val (.int p1), .val (.int p2), .val (.int p3), .val (.int (0 : Int32)), .val (.int y0), .val (.int y1), .val (.int y2), .val (.int y3), .val (.ref b1), .val (.int bt), .val (.long (0 : Int64)), .second, .val (.int (1 : Int32)), .val (.int (own_ib (y0.toInt8.toInt32).toInt8.toInt32 (y1.toInt8.toInt32).toInt8.toInt32 (y2.toInt8.toInt32).toInt8.toInt32 (y3.toInt8.toInt32).toInt8.toInt32 (0 : Int32) bt))] []
          refine own_st (fun _ k => XS.iconst X22.here hx rfl (hb hby at_211) k) ?_
          show own_Go X22 (Q0 Z p0 p1 p2 p3 h0 n0) 1 4 212 #[.val (.int p0), .val (.int p1), .val (.int p2), .val (.int p3), .val (.int (0 : Int32)), .val (.int y0), .val (.int y1), .val (.int y2), .val (.int y3), .val (.ref b1), .val (.int bt), .val (.long (0 : Int64)), .second, .val (.int (1 : Int32)), .val (.int (own_ib (y0.toInt8.toInt32).toInt8.toInt32 (y1.toInt8.toInt32).toInt8.toInt32 (y2.toInt8.toInt32).toInt8.toInt32 (y3.toInt8.toInt32).toInt8.toInt32 (0 : Int32) bt))] [(.int (1 : Int32))]
          refine own_st (fun _ k => XS.goto X22.here hx rfl (pc0 := 212) (pc' := 216) rfl (hb hby at_212) (by decide) (by decide) k) ?_
          show own_Go X22 (Q0 Z p0 p1 p2 p3 h0 n0) 1 4 216 #[.val (.int p0), .val (.int p1), .val (.int p2), .val (.int p3), .val (.int (0 : Int32)), .val (.int y0), .val (.int y1), .val (.int y2), .val (.int y3), .val (.ref b1), .val (.int bt), .val (.long (0 : Int64)), .second, .val (.int (1 : Int32)), .val (.int (own_ib (y0.toInt8.toInt32).toInt8.toInt32 (y1.toInt8.toInt32).toInt8.toInt32 (y2.toInt8.toInt32).toInt8.toInt32 (y3.toInt8.toInt32).toInt8.toInt32 (0 : Int32) bt))] [(.int (1 : Int32))]
          refine own_retN X22 hx Bd.returns (by simp) hlk e22 (hb hby at_216) (by decide) (by decide) ?_
          exact ⟨rfl, N_23⟩
        · skip
          refine own_st (fun _ k => XS.ifYes X13.here hx rfl (pc0 := 183) (pc' := 190) rfl (hb hby at_183) rfl ((if0 _ _).trans (feq (fun q => c183_21 ((lw_eq _ _).mp q))).2) (by decide) (by decide) k) ?_
          show own_Go X13 (Q0 Z p0 p1 p2 p3 h0 n0) 1 4 190 #[.val (.int p0), .val (.int p1), .val (.int p2), .val (.int p3), .val (.int (0 : Int32)), .val (.int y0), .val (.int y1), .val (.int y2), .val (.int y3), .val (.ref b1), .val (.int bt), .val (.long (0 : Int64)), .second, .unset, .unset] []
          refine own_st (fun _ k => XS.iconst X13.here hx rfl (hb hby at_190) k) ?_
          show own_Go X13 (Q0 Z p0 p1 p2 p3 h0 n0) 1 4 191 #[.val (.int p0), .val (.int p1), .val (.int p2), .val (.int p3), .val (.int (0 : Int32)), .val (.int y0), .val (.int y1), .val (.int y2), .val (.int y3), .val (.ref b1), .val (.int bt), .val (.long (0 : Int64)), .second, .unset, .unset] [(.int (0 : Int32))]
          refine own_st (fun _ k => XS.istore X13.here hx rfl (hb hby at_191) rfl (l' := #[.val (.int p0), .val (.int p1), .val (.int p2), .val (.int p3), .val (.int (0 : Int32)), .val (.int y0), .val (.int y1), .val (.int y2), .val (.int y3), .val (.ref b1), .val (.int bt), .val (.long (0 : Int64)), .second, .val (.int (0 : Int32)), .unset]) rfl k) ?_
          show own_Go X13 (Q0 Z p0 p1 p2 p3 h0 n0) 1 4 193 #[.val (.int p0), .val (.int p1), .val (.int p2), .val (.int p3), .val (.int (0 : Int32)), .val (.int y0), .val (.int y1), .val (.int y2), .val (.int y3), .val (.ref b1), .val (.int bt), .val (.long (0 : Int64)), .second, .val (.int (0 : Int32)), .unset] []
          refine own_st (fun _ k => XS.aload X13.here hx rfl (hb hby at_193) rfl rfl k) ?_
          show own_Go X13 (Q0 Z p0 p1 p2 p3 h0 n0) 1 4 195 #[.val (.int p0), .val (.int p1), .val (.int p2), .val (.int p3), .val (.int (0 : Int32)), .val (.int y0), .val (.int y1), .val (.int y2), .val (.int y3), .val (.ref b1), .val (.int bt), .val (.long (0 : Int64)), .second, .val (.int (0 : Int32)), .unset] [(.ref b1)]
          refine own_st (fun _ k => XS.iload X13.here hx rfl (hb hby at_195) rfl k) ?_
          show own_Go X13 (Q0 Z p0 p1 p2 p3 h0 n0) 1 4 197 #[.val (.int p0), .val (.int p1), .val (.int p2), .val (.int p3), .val (.int (0 : Int32)), .val (.int y0), .val (.int y1), .val (.int y2), .val (.int y3), .val (.ref b1), .val (.int bt), .val (.long (0 : Int64)), .second, .val (.int (0 : Int32)), .unset] [(.int (0 : Int32)), (.ref b1)]
          refine own_st (fun _ k => XS.iload X13.here hx rfl (hb hby at_197) rfl k) ?_
          show own_Go X13 (Q0 Z p0 p1 p2 p3 h0 n0) 1 4 199 #[.val (.int p0), .val (.int p1), .val (.int p2), .val (.int p3), .val (.int (0 : Int32)), .val (.int y0), .val (.int y1), .val (.int y2), .val (.int y3), .val (.ref b1), .val (.int bt), .val (.long (0 : Int64)), .second, .val (.int (0 : Int32)), .unset] [(.int bt), (.int (0 : Int32)), (.ref b1)]
          refine own_callS (W := 0) X13 hx hZ hown (hw _ (List.mem_of_getElem? (i := 3) rfl)) (hw _ (List.mem_of_getElem? (i := 4) rfl)) (hw _ (List.mem_of_getElem? (i := 5) rfl)) (hw _ (List.mem_of_getElem? (i := 6) rfl)) (by decide) (rm1 l Z a0 hw [] b1 (0 : Int32) bt k1 (y0.toInt8.toInt32).toInt8.toInt32 (y1.toInt8.toInt32).toInt8.toInt32 (y2.toInt8.toInt32).toInt8.toInt32 (y3.toInt8.toInt32).toInt8.toInt32 h13 n0 Z_14 U13 (own_ixb (k := (0 : Int32)) (kk := 0) (by decide) (by decide) (by decide) hbt)) (by decide) (by decide) (by rw [hml]; rfl) [(.ref b1), (.int (0 : Int32)), (.int bt)] [] (lenOf pd_0_0 rfl) rfl rfl (Nat.le_of_ble_eq_true rfl) (hb hby at_199) e13 (by decide) (by decide) ?_
          rintro _ T25 L25 X25 ⟨rfl, N25q, e25⟩
          have N_26 := Fr.app N_15 N25q
          show own_Go X25 (Q0 Z p0 p1 p2 p3 h0 n0) 1 4 202 #[.val (.int p0), .val (.int p1), .val (.int p2), .val (.int p3), .val (.int (0 : Int32)), .val (.int y0), .val (.int y1), .val (.int y2), .val (.int y3), .val (.ref b1), .val (.int bt), .val (.long (0 : Int64)), .second, .val (.int (0 : Int32)), .unset] [(.int (own_ib (y0.toInt8.toInt32).toInt8.toInt32 (y1.toInt8.toInt32).toInt8.toInt32 (y2.toInt8.toInt32).toInt8.toInt32 (y3.toInt8.toInt32).toInt8.toInt32 (0 : Int32) bt))]
          refine own_st (fun _ k => XS.istore X25.here hx rfl (hb hby at_202) rfl (l' := #[.val (.int p0), .val (.int p1), .val (.int p2), .val (.int p3), .val (.int (0 : Int32)), .val (.int y0), .val (.int y1), .val (.int y2), .val (.int y3), .val (.ref b1), .val (.int bt), .val (.long (0 : Int64)), .second, .val (.int (0 : Int32)), .val (.int (own_ib (y0.toInt8.toInt32).toInt8.toInt32 (y1.toInt8.toInt32).toInt8.toInt32 (y2.toInt8.toInt32).toInt8.toInt32 (y3.toInt8.toInt32).toInt8.toInt32 (0 : Int32) bt))]) rfl k) ?_
          show own_Go X25 (Q0 Z p0 p1 p2 p3 h0 n0) 1 4 204 #[.val (.int p0), .val (.int p1), .val (.int p2), .val (.int p3), .val (.int (0 : Int32)), .val (.int y0), .val (.int y1), .val (.int y2), .val (.int y3), .val (.ref b1), .val (.int bt), .val (.long (0 : Int64)), .second, .val (.int (0 : Int32)), .val (.int (own_ib (y0.toInt8.toInt32).toInt8.toInt32 (y1.toInt8.toInt32).toInt8.toInt32 (y2.toInt8.toInt32).toInt8.toInt32 (y3.toInt8.toInt32).toInt8.toInt32 (0 : Int32) bt))] []
          refine own_st (fun _ k => XS.iload X25.here hx rfl (hb hby at_204) rfl k) ?_
          show own_Go X25 (Q0 Z p0 p1 p2 p3 h0 n0) 1 4 206 #[.val (.int p0), .val (.int p1), .val (.int p2), .val (.int p3), .val (.int (0 : Int32)), .val (.int y0), .val (.int y1), .val (.int y2), .val (.int y3), .val (.ref b1), .val (.int bt), .val (.long (0 : Int64)), .second, .val (.int (0 : Int32)), .val (.int (own_ib (y0.toInt8.toInt32).toInt8.toInt32 (y1.toInt8.toInt32).toInt8.toInt32 (y2.toInt8.toInt32).toInt8.toInt32 (y3.toInt8.toInt32).toInt8.toInt32 (0 : Int32) bt))] [(.int (own_ib (y0.toInt8.toInt32).toInt8.toInt32 (y1.toInt8.toInt32).toInt8.toInt32 (y2.toInt8.toInt32).toInt8.toInt32 (y3.toInt8.toInt32).toInt8.toInt32 (0 : Int32) bt))]
          refine own_st (fun _ k => XS.iload X25.here hx rfl (hb hby at_206) rfl k) ?_
          show own_Go X25 (Q0 Z p0 p1 p2 p3 h0 n0) 1 4 208 #[.val (.int p0), .val (.int p1), .val (.int p2), .val (.int p3), .val (.int (0 : Int32)), .val (.int y0), .val (.int y1), .val (.int y2), .val (.int y3), .val (.ref b1), .val (.int bt), .val (.long (0 : Int64)), .second, .val (.int (0 : Int32)), .val (.int (own_ib (y0.toInt8.toInt32).toInt8.toInt32 (y1.toInt8.toInt32).toInt8.toInt32 (y2.toInt8.toInt32).toInt8.toInt32 (y3.toInt8.toInt32).toInt8.toInt32 (0 : Int32) bt))] [(.int (0 : Int32)), (.int (own_ib (y0.toInt8.toInt32).toInt8.toInt32 (y1.toInt8.toInt32).toInt8.toInt32 (y2.toInt8.toInt32).toInt8.toInt32 (y3.toInt8.toInt32).toInt8.toInt32 (0 : Int32) bt))]
          have c208_27 : (own_ib (y0.toInt8.toInt32).toInt8.toInt32 (y1.toInt8.toInt32).toInt8.toInt32 (y2.toInt8.toInt32).toInt8.toInt32 (y3.toInt8.toInt32).toInt8.toInt32 (0 : Int32) bt) = (0 : Int32) := absurd (own_ltN (B := 0) (by decide) c171_20) (by omega)
          refine own_st (fun _ k => XS.icmpNo X25.here hx rfl (hb hby at_208) rfl (teq c208_27).2 k) ?_
          show own_Go X25 (Q0 Z p0 p1 p2 p3 h0 n0) 1 4 211 #[.val (.int p0), .val (.int p1), .val (.int p2), .val (.int p3), .val (.int (0 : Int32)), .val (.int y0), .val (.int y1), .val (.int y2), .val (.int y3), .val (.ref b1), .val (.int bt), .val (.long (0 : Int64)), .second, .val (.int (0 : Int32)), .val (.int (own_ib (y0.toInt8.toInt32).toInt8.toInt32 (y1.toInt8.toInt32).toInt8.toInt32 (y2.toInt8.toInt32).toInt8.toInt32 (y3.toInt8.toInt32).toInt8.toInt32 (0 : Int32) bt))] []
          refine own_st (fun _ k => XS.iconst X25.here hx rfl (hb hby at_211) k) ?_
          show own_Go X25 (Q0 Z p0 p1 p2 p3 h0 n0) 1 4 212 #[.val (.int p0), .val (.int p1), .val (.int p2), .val (.int p3), .val (.int (0 : Int32)), .val (.int y0), .val (.int y1), .val (.int y2), .val (.int y3), .val (.ref b1), .val (.int bt), .val (.long (0 : Int64)), .second, .val (.int (0 : Int32)), .val (.int (own_ib (y0.toInt8.toInt32).toInt8.toInt32 (y1.toInt8.toInt32).toInt8.toInt32 (y2.toInt8.toInt32).toInt8.toInt32 (y3.toInt8.toInt32).toInt8.toInt32 (0 : Int32) bt))] [(.int (1 : Int32))]
          refine own_st (fun _ k => XS.goto X25.here hx rfl (pc0 := 212) (pc' := 216) rfl (hb hby at_212) (by decide) (by decide) k) ?_
          show own_Go X25 (Q0 Z p0 p1 p2 p3 h0 n0) 1 4 216 #[.val (.int p0), .val (.int p1), .val (.int p2), .val (.int p3), .val (.int (0 : Int32)), .val (.int y0), .val (.int y1), .val (.int y2), .val (.int y3), .val (.ref b1), .val (.int bt), .val (.long (0 : Int64)), .second, .val (.int (0 : Int32)), .val (.int (own_ib (y0.toInt8.toInt32).toInt8.toInt32 (y1.toInt8.toInt32).toInt8.toInt32 (y2.toInt8.toInt32).toInt8.toInt32 (y3.toInt8.toInt32).toInt8.toInt32 (0 : Int32) bt))] [(.int (1 : Int32))]
          refine own_retN X25 hx Bd.returns (by simp) hlk e25 (hb hby at_216) (by decide) (by decide) ?_
          exact ⟨rfl, N_26⟩
      · skip
        refine own_st (fun _ k => XS.icmpYes X13.here hx rfl (pc0 := 171) (pc' := 190) rfl (hb hby at_171) rfl (flt c171_20).2.1 (by decide) (by decide) k) ?_
        show own_Go X13 (Q0 Z p0 p1 p2 p3 h0 n0) 1 4 190 #[.val (.int p0), .val (.int p1), .val (.int p2), .val (.int p3), .val (.int (0 : Int32)), .val (.int y0), .val (.int y1), .val (.int y2), .val (.int y3), .val (.ref b1), .val (.int bt), .val (.long (0 : Int64)), .second, .unset, .unset] []
        refine own_st (fun _ k => XS.iconst X13.here hx rfl (hb hby at_190) k) ?_
        show own_Go X13 (Q0 Z p0 p1 p2 p3 h0 n0) 1 4 191 #[.val (.int p0), .val (.int p1), .val (.int p2), .val (.int p3), .val (.int (0 : Int32)), .val (.int y0), .val (.int y1), .val (.int y2), .val (.int y3), .val (.ref b1), .val (.int bt), .val (.long (0 : Int64)), .second, .unset, .unset] [(.int (0 : Int32))]
        refine own_st (fun _ k => XS.istore X13.here hx rfl (hb hby at_191) rfl (l' := #[.val (.int p0), .val (.int p1), .val (.int p2), .val (.int p3), .val (.int (0 : Int32)), .val (.int y0), .val (.int y1), .val (.int y2), .val (.int y3), .val (.ref b1), .val (.int bt), .val (.long (0 : Int64)), .second, .val (.int (0 : Int32)), .unset]) rfl k) ?_
        show own_Go X13 (Q0 Z p0 p1 p2 p3 h0 n0) 1 4 193 #[.val (.int p0), .val (.int p1), .val (.int p2), .val (.int p3), .val (.int (0 : Int32)), .val (.int y0), .val (.int y1), .val (.int y2), .val (.int y3), .val (.ref b1), .val (.int bt), .val (.long (0 : Int64)), .second, .val (.int (0 : Int32)), .unset] []
        refine own_st (fun _ k => XS.aload X13.here hx rfl (hb hby at_193) rfl rfl k) ?_
        show own_Go X13 (Q0 Z p0 p1 p2 p3 h0 n0) 1 4 195 #[.val (.int p0), .val (.int p1), .val (.int p2), .val (.int p3), .val (.int (0 : Int32)), .val (.int y0), .val (.int y1), .val (.int y2), .val (.int y3), .val (.ref b1), .val (.int bt), .val (.long (0 : Int64)), .second, .val (.int (0 : Int32)), .unset] [(.ref b1)]
        refine own_st (fun _ k => XS.iload X13.here hx rfl (hb hby at_195) rfl k) ?_
        show own_Go X13 (Q0 Z p0 p1 p2 p3 h0 n0) 1 4 197 #[.val (.int p0), .val (.int p1), .val (.int p2), .val (.int p3), .val (.int (0 : Int32)), .val (.int y0), .val (.int y1), .val (.int y2), .val (.int y3), .val (.ref b1), .val (.int bt), .val (.long (0 : Int64)), .second, .val (.int (0 : Int32)), .unset] [(.int (0 : Int32)), (.ref b1)]
        refine own_st (fun _ k => XS.iload X13.here hx rfl (hb hby at_197) rfl k) ?_
        show own_Go X13 (Q0 Z p0 p1 p2 p3 h0 n0) 1 4 199 #[.val (.int p0), .val (.int p1), .val (.int p2), .val (.int p3), .val (.int (0 : Int32)), .val (.int y0), .val (.int y1), .val (.int y2), .val (.int y3), .val (.ref b1), .val (.int bt), .val (.long (0 : Int64)), .second, .val (.int (0 : Int32)), .unset] [(.int bt), (.int (0 : Int32)), (.ref b1)]
        refine own_callS (W := 0) X13 hx hZ hown (hw _ (List.mem_of_getElem? (i := 3) rfl)) (hw _ (List.mem_of_getElem? (i := 4) rfl)) (hw _ (List.mem_of_getElem? (i := 5) rfl)) (hw _ (List.mem_of_getElem? (i := 6) rfl)) (by decide) (rm1 l Z a0 hw [] b1 (0 : Int32) bt k1 (y0.toInt8.toInt32).toInt8.toInt32 (y1.toInt8.toInt32).toInt8.toInt32 (y2.toInt8.toInt32).toInt8.toInt32 (y3.toInt8.toInt32).toInt8.toInt32 h13 n0 Z_14 U13 (own_ixb (k := (0 : Int32)) (kk := 0) (by decide) (by decide) (by decide) hbt)) (by decide) (by decide) (by rw [hml]; rfl) [(.ref b1), (.int (0 : Int32)), (.int bt)] [] (lenOf pd_0_0 rfl) rfl rfl (Nat.le_of_ble_eq_true rfl) (hb hby at_199) e13 (by decide) (by decide) ?_
        rintro _ T28 L28 X28 ⟨rfl, N28q, e28⟩
        have N_29 := Fr.app N_15 N28q
        show own_Go X28 (Q0 Z p0 p1 p2 p3 h0 n0) 1 4 202 #[.val (.int p0), .val (.int p1), .val (.int p2), .val (.int p3), .val (.int (0 : Int32)), .val (.int y0), .val (.int y1), .val (.int y2), .val (.int y3), .val (.ref b1), .val (.int bt), .val (.long (0 : Int64)), .second, .val (.int (0 : Int32)), .unset] [(.int (own_ib (y0.toInt8.toInt32).toInt8.toInt32 (y1.toInt8.toInt32).toInt8.toInt32 (y2.toInt8.toInt32).toInt8.toInt32 (y3.toInt8.toInt32).toInt8.toInt32 (0 : Int32) bt))]
        refine own_st (fun _ k => XS.istore X28.here hx rfl (hb hby at_202) rfl (l' := #[.val (.int p0), .val (.int p1), .val (.int p2), .val (.int p3), .val (.int (0 : Int32)), .val (.int y0), .val (.int y1), .val (.int y2), .val (.int y3), .val (.ref b1), .val (.int bt), .val (.long (0 : Int64)), .second, .val (.int (0 : Int32)), .val (.int (own_ib (y0.toInt8.toInt32).toInt8.toInt32 (y1.toInt8.toInt32).toInt8.toInt32 (y2.toInt8.toInt32).toInt8.toInt32 (y3.toInt8.toInt32).toInt8.toInt32 (0 : Int32) bt))]) rfl k) ?_
        show own_Go X28 (Q0 Z p0 p1 p2 p3 h0 n0) 1 4 204 #[.val (.int p0), .val (.int p1), .val (.int p2), .val (.int p3), .val (.int (0 : Int32)), .val (.int y0), .val (.int y1), .val (.int y2), .val (.int y3), .val (.ref b1), .val (.int bt), .val (.long (0 : Int64)), .second, .val (.int (0 : Int32)), .val (.int (own_ib (y0.toInt8.toInt32).toInt8.toInt32 (y1.toInt8.toInt32).toInt8.toInt32 (y2.toInt8.toInt32).toInt8.toInt32 (y3.toInt8.toInt32).toInt8.toInt32 (0 : Int32) bt))] []
        refine own_st (fun _ k => XS.iload X28.here hx rfl (hb hby at_204) rfl k) ?_
        show own_Go X28 (Q0 Z p0 p1 p2 p3 h0 n0) 1 4 206 #[.val (.int p0), .val (.int p1), .val (.int p2), .val (.int p3), .val (.int (0 : Int32)), .val (.int y0), .val (.int y1), .val (.int y2), .val (.int y3), .val (.ref b1), .val (.int bt), .val (.long (0 : Int64)), .second, .val (.int (0 : Int32)), .val (.int (own_ib (y0.toInt8.toInt32).toInt8.toInt32 (y1.toInt8.toInt32).toInt8.toInt32 (y2.toInt8.toInt32).toInt8.toInt32 (y3.toInt8.toInt32).toInt8.toInt32 (0 : Int32) bt))] [(.int (own_ib (y0.toInt8.toInt32).toInt8.toInt32 (y1.toInt8.toInt32).toInt8.toInt32 (y2.toInt8.toInt32).toInt8.toInt32 (y3.toInt8.toInt32).toInt8.toInt32 (0 : Int32) bt))]
        refine own_st (fun _ k => XS.iload X28.here hx rfl (hb hby at_206) rfl k) ?_
        show own_Go X28 (Q0 Z p0 p1 p2 p3 h0 n0) 1 4 208 #[.val (.int p0), .val (.int p1), .val (.int p2), .val (.int p3), .val (.int (0 : Int32)), .val (.int y0), .val (.int y1), .val (.int y2), .val (.int y3), .val (.ref b1), .val (.int bt), .val (.long (0 : Int64)), .second, .val (.int (0 : Int32)), .val (.int (own_ib (y0.toInt8.toInt32).toInt8.toInt32 (y1.toInt8.toInt32).toInt8.toInt32 (y2.toInt8.toInt32).toInt8.toInt32 (y3.toInt8.toInt32).toInt8.toInt32 (0 : Int32) bt))] [(.int (0 : Int32)), (.int (own_ib (y0.toInt8.toInt32).toInt8.toInt32 (y1.toInt8.toInt32).toInt8.toInt32 (y2.toInt8.toInt32).toInt8.toInt32 (y3.toInt8.toInt32).toInt8.toInt32 (0 : Int32) bt))]
        have c208_30 : (own_ib (y0.toInt8.toInt32).toInt8.toInt32 (y1.toInt8.toInt32).toInt8.toInt32 (y2.toInt8.toInt32).toInt8.toInt32 (y3.toInt8.toInt32).toInt8.toInt32 (0 : Int32) bt) = (0 : Int32) := own_out (kk := 0) (by decide) (by decide) (by decide) hbt (by have := own_geN (B := 0) (by decide) c171_20; omega)
        refine own_st (fun _ k => XS.icmpNo X28.here hx rfl (hb hby at_208) rfl (teq c208_30).2 k) ?_
        show own_Go X28 (Q0 Z p0 p1 p2 p3 h0 n0) 1 4 211 #[.val (.int p0), .val (.int p1), .val (.int p2), .val (.int p3), .val (.int (0 : Int32)), .val (.int y0), .val (.int y1), .val (.int y2), .val (.int y3), .val (.ref b1), .val (.int bt), .val (.long (0 : Int64)), .second, .val (.int (0 : Int32)), .val (.int (own_ib (y0.toInt8.toInt32).toInt8.toInt32 (y1.toInt8.toInt32).toInt8.toInt32 (y2.toInt8.toInt32).toInt8.toInt32 (y3.toInt8.toInt32).toInt8.toInt32 (0 : Int32) bt))] []
        refine own_st (fun _ k => XS.iconst X28.here hx rfl (hb hby at_211) k) ?_
        show own_Go X28 (Q0 Z p0 p1 p2 p3 h0 n0) 1 4 212 #[.val (.int p0), .val (.int p1), .val (.int p2), .val (.int p3), .val (.int (0 : Int32)), .val (.int y0), .val (.int y1), .val (.int y2), .val (.int y3), .val (.ref b1), .val (.int bt), .val (.long (0 : Int64)), .second, .val (.int (0 : Int32)), .val (.int (own_ib (y0.toInt8.toInt32).toInt8.toInt32 (y1.toInt8.toInt32).toInt8.toInt32 (y2.toInt8.toInt32).toInt8.toInt32 (y3.toInt8.toInt32).toInt8.toInt32 (0 : Int32) bt))] [(.int (1 : Int32))]
        refine own_st (fun _ k => XS.goto X28.here hx rfl (pc0 := 212) (pc' := 216) rfl (hb hby at_212) (by decide) (by decide) k) ?_
        show own_Go X28 (Q0 Z p0 p1 p2 p3 h0 n0) 1 4 216 #[.val (.int p0), .val (.int p1), .val (.int p2), .val (.int p3), .val (.int (0 : Int32)), .val (.int y0), .val (.int y1), .val (.int y2), .val (.int y3), .val (.ref b1), .val (.int bt), .val (.long (0 : Int64)), .second, .val (.int (0 : Int32)), .val (.int (own_ib (y0.toInt8.toInt32).toInt8.toInt32 (y1.toInt8.toInt32).toInt8.toInt32 (y2.toInt8.toInt32).toInt8.toInt32 (y3.toInt8.toInt32).toInt8.toInt32 (0 : Int32) bt))] [(.int (1 : Int32))]
        refine own_retN X28 hx Bd.returns (by simp) hlk e28 (hb hby at_216) (by decide) (by decide) ?_
        exact ⟨rfl, N_29⟩
    · skip
      show own_Go X13 (Q0 Z p0 p1 p2 p3 h0 n0) 1 4 100 #[.val (.int p0), .val (.int p1), .val (.int p2), .val (.int p3), .val (.int (1 : Int32)), .val (.int y0), .val (.int y1), .val (.int y2), .val (.int y3), .val (.ref b1), .val (.int bt), .val (.long (0 : Int64)), .second, .unset, .unset] []
      refine own_st (fun _ k => XS.iload X13.here hx rfl (hb hby at_100) rfl k) ?_
      show own_Go X13 (Q0 Z p0 p1 p2 p3 h0 n0) 1 4 102 #[.val (.int p0), .val (.int p1), .val (.int p2), .val (.int p3), .val (.int (1 : Int32)), .val (.int y0), .val (.int y1), .val (.int y2), .val (.int y3), .val (.ref b1), .val (.int bt), .val (.long (0 : Int64)), .second, .unset, .unset] [(.int (1 : Int32))]
      have c102_31 : (0 : Int32) < (1 : Int32) := (by decide)
      refine own_st (fun _ k => XS.ifNo X13.here hx rfl (hb hby at_102) rfl ((if0 _ _).trans (tlt c102_31).2.2.2) k) ?_
      show own_Go X13 (Q0 Z p0 p1 p2 p3 h0 n0) 1 4 105 #[.val (.int p0), .val (.int p1), .val (.int p2), .val (.int p3), .val (.int (1 : Int32)), .val (.int y0), .val (.int y1), .val (.int y2), .val (.int y3), .val (.ref b1), .val (.int bt), .val (.long (0 : Int64)), .second, .unset, .unset] []
      refine own_st (fun _ k => XS.iload X13.here hx rfl (hb hby at_105) rfl k) ?_
      show own_Go X13 (Q0 Z p0 p1 p2 p3 h0 n0) 1 4 107 #[.val (.int p0), .val (.int p1), .val (.int p2), .val (.int p3), .val (.int (1 : Int32)), .val (.int y0), .val (.int y1), .val (.int y2), .val (.int y3), .val (.ref b1), .val (.int bt), .val (.long (0 : Int64)), .second, .unset, .unset] [(.int y0)]
      refine own_st (fun _ k => XS.i2l X13.here hx rfl (hb hby at_107) rfl k) ?_
      show own_Go X13 (Q0 Z p0 p1 p2 p3 h0 n0) 1 4 108 #[.val (.int p0), .val (.int p1), .val (.int p2), .val (.int p3), .val (.int (1 : Int32)), .val (.int y0), .val (.int y1), .val (.int y2), .val (.int y3), .val (.ref b1), .val (.int bt), .val (.long (0 : Int64)), .second, .unset, .unset] [(.long (y0.toInt64))]
      refine own_st (fun _ k => XS.lstore X13.here hx rfl (hb hby at_108) rfl (l' := #[.val (.int p0), .val (.int p1), .val (.int p2), .val (.int p3), .val (.int (1 : Int32)), .val (.int y0), .val (.int y1), .val (.int y2), .val (.int y3), .val (.ref b1), .val (.int bt), .val (.long (y0.toInt64)), .second, .unset, .unset]) rfl k) ?_
      show own_Go X13 (Q0 Z p0 p1 p2 p3 h0 n0) 1 4 110 #[.val (.int p0), .val (.int p1), .val (.int p2), .val (.int p3), .val (.int (1 : Int32)), .val (.int y0), .val (.int y1), .val (.int y2), .val (.int y3), .val (.ref b1), .val (.int bt), .val (.long (y0.toInt64)), .second, .unset, .unset] []
      refine own_st (fun _ k => XS.iload X13.here hx rfl (hb hby at_110) rfl k) ?_
      show own_Go X13 (Q0 Z p0 p1 p2 p3 h0 n0) 1 4 112 #[.val (.int p0), .val (.int p1), .val (.int p2), .val (.int p3), .val (.int (1 : Int32)), .val (.int y0), .val (.int y1), .val (.int y2), .val (.int y3), .val (.ref b1), .val (.int bt), .val (.long (y0.toInt64)), .second, .unset, .unset] [(.int (1 : Int32))]
      refine own_st (fun _ k => XS.iconst X13.here hx rfl (hb hby at_112) k) ?_
      show own_Go X13 (Q0 Z p0 p1 p2 p3 h0 n0) 1 4 113 #[.val (.int p0), .val (.int p1), .val (.int p2), .val (.int p3), .val (.int (1 : Int32)), .val (.int y0), .val (.int y1), .val (.int y2), .val (.int y3), .val (.ref b1), .val (.int bt), .val (.long (y0.toInt64)), .second, .unset, .unset] [(.int (1 : Int32)), (.int (1 : Int32))]
      have c113_32 : ¬ ((1 : Int32) < (1 : Int32)) := (by decide)
      refine own_st (fun _ k => XS.icmpYes X13.here hx rfl (pc0 := 113) (pc' := 128) rfl (hb hby at_113) rfl (flt c113_32).2.2.2 (by decide) (by decide) k) ?_
      show own_Go X13 (Q0 Z p0 p1 p2 p3 h0 n0) 1 4 128 #[.val (.int p0), .val (.int p1), .val (.int p2), .val (.int p3), .val (.int (1 : Int32)), .val (.int y0), .val (.int y1), .val (.int y2), .val (.int y3), .val (.ref b1), .val (.int bt), .val (.long (y0.toInt64)), .second, .unset, .unset] []
      refine own_st (fun _ k => XS.iload X13.here hx rfl (hb hby at_128) rfl k) ?_
      show own_Go X13 (Q0 Z p0 p1 p2 p3 h0 n0) 1 4 130 #[.val (.int p0), .val (.int p1), .val (.int p2), .val (.int p3), .val (.int (1 : Int32)), .val (.int y0), .val (.int y1), .val (.int y2), .val (.int y3), .val (.ref b1), .val (.int bt), .val (.long (y0.toInt64)), .second, .unset, .unset] [(.int (1 : Int32))]
      refine own_st (fun _ k => XS.iconst X13.here hx rfl (hb hby at_130) k) ?_
      show own_Go X13 (Q0 Z p0 p1 p2 p3 h0 n0) 1 4 131 #[.val (.int p0), .val (.int p1), .val (.int p2), .val (.int p3), .val (.int (1 : Int32)), .val (.int y0), .val (.int y1), .val (.int y2), .val (.int y3), .val (.ref b1), .val (.int bt), .val (.long (y0.toInt64)), .second, .unset, .unset] [(.int (2 : Int32)), (.int (1 : Int32))]
      have c131_33 : ¬ ((2 : Int32) < (1 : Int32)) := (by decide)
      refine own_st (fun _ k => XS.icmpYes X13.here hx rfl (pc0 := 131) (pc' := 146) rfl (hb hby at_131) rfl (flt c131_33).2.2.2 (by decide) (by decide) k) ?_
      show own_Go X13 (Q0 Z p0 p1 p2 p3 h0 n0) 1 4 146 #[.val (.int p0), .val (.int p1), .val (.int p2), .val (.int p3), .val (.int (1 : Int32)), .val (.int y0), .val (.int y1), .val (.int y2), .val (.int y3), .val (.ref b1), .val (.int bt), .val (.long (y0.toInt64)), .second, .unset, .unset] []
      refine own_st (fun _ k => XS.iload X13.here hx rfl (hb hby at_146) rfl k) ?_
      show own_Go X13 (Q0 Z p0 p1 p2 p3 h0 n0) 1 4 148 #[.val (.int p0), .val (.int p1), .val (.int p2), .val (.int p3), .val (.int (1 : Int32)), .val (.int y0), .val (.int y1), .val (.int y2), .val (.int y3), .val (.ref b1), .val (.int bt), .val (.long (y0.toInt64)), .second, .unset, .unset] [(.int (1 : Int32))]
      refine own_st (fun _ k => XS.iconst X13.here hx rfl (hb hby at_148) k) ?_
      show own_Go X13 (Q0 Z p0 p1 p2 p3 h0 n0) 1 4 149 #[.val (.int p0), .val (.int p1), .val (.int p2), .val (.int p3), .val (.int (1 : Int32)), .val (.int y0), .val (.int y1), .val (.int y2), .val (.int y3), .val (.ref b1), .val (.int bt), .val (.long (y0.toInt64)), .second, .unset, .unset] [(.int (3 : Int32)), (.int (1 : Int32))]
      have c149_34 : ¬ ((3 : Int32) < (1 : Int32)) := (by decide)
      refine own_st (fun _ k => XS.icmpYes X13.here hx rfl (pc0 := 149) (pc' := 164) rfl (hb hby at_149) rfl (flt c149_34).2.2.2 (by decide) (by decide) k) ?_
      show own_Go X13 (Q0 Z p0 p1 p2 p3 h0 n0) 1 4 164 #[.val (.int p0), .val (.int p1), .val (.int p2), .val (.int p3), .val (.int (1 : Int32)), .val (.int y0), .val (.int y1), .val (.int y2), .val (.int y3), .val (.ref b1), .val (.int bt), .val (.long (y0.toInt64)), .second, .unset, .unset] []
      generalize hvv : (y0.toInt64) = vv
      show own_Go X13 (Q0 Z p0 p1 p2 p3 h0 n0) 1 4 164 #[.val (.int p0), .val (.int p1), .val (.int p2), .val (.int p3), .val (.int (1 : Int32)), .val (.int y0), .val (.int y1), .val (.int y2), .val (.int y3), .val (.ref b1), .val (.int bt), .val (.long vv), .second, .unset, .unset] []
      have z0 := own_b255 hy0
      have z1 := own_b255 hy1
      have z2 := own_b255 hy2
      have z3 := own_b255 hy3
      have hvv' : vv.toInt = y0.toInt := by rw [← hvv]; exact (c_i2l y0)
      refine own_st (fun _ k => XS.iload X13.here hx rfl (hb hby at_164) rfl k) ?_
      show own_Go X13 (Q0 Z p0 p1 p2 p3 h0 n0) 1 4 166 #[.val (.int p0), .val (.int p1), .val (.int p2), .val (.int p3), .val (.int (1 : Int32)), .val (.int y0), .val (.int y1), .val (.int y2), .val (.int y3), .val (.ref b1), .val (.int bt), .val (.long vv), .second, .unset, .unset] [(.int bt)]
      refine own_st (fun _ k => XS.bipush X13.here hx rfl (hb hby at_166) k) ?_
      show own_Go X13 (Q0 Z p0 p1 p2 p3 h0 n0) 1 4 168 #[.val (.int p0), .val (.int p1), .val (.int p2), .val (.int p3), .val (.int (1 : Int32)), .val (.int y0), .val (.int y1), .val (.int y2), .val (.int y3), .val (.ref b1), .val (.int bt), .val (.long vv), .second, .unset, .unset] [(.int (8 : Int32)), (.int bt)]
      refine own_st (fun _ k => XS.iload X13.here hx rfl (hb hby at_168) rfl k) ?_
      show own_Go X13 (Q0 Z p0 p1 p2 p3 h0 n0) 1 4 170 #[.val (.int p0), .val (.int p1), .val (.int p2), .val (.int p3), .val (.int (1 : Int32)), .val (.int y0), .val (.int y1), .val (.int y2), .val (.int y3), .val (.ref b1), .val (.int bt), .val (.long vv), .second, .unset, .unset] [(.int (1 : Int32)), (.int (8 : Int32)), (.int bt)]
      refine own_st (fun _ k => XS.imul X13.here hx rfl (hb hby at_170) rfl k) ?_
      show own_Go X13 (Q0 Z p0 p1 p2 p3 h0 n0) 1 4 171 #[.val (.int p0), .val (.int p1), .val (.int p2), .val (.int p3), .val (.int (1 : Int32)), .val (.int y0), .val (.int y1), .val (.int y2), .val (.int y3), .val (.ref b1), .val (.int bt), .val (.long vv), .second, .unset, .unset] [(.int (8 : Int32)), (.int bt)]
      by_cases c171_35 : bt < (8 : Int32)
      · skip
        refine own_st (fun _ k => XS.icmpNo X13.here hx rfl (hb hby at_171) rfl (tlt c171_35).2.1 k) ?_
        show own_Go X13 (Q0 Z p0 p1 p2 p3 h0 n0) 1 4 174 #[.val (.int p0), .val (.int p1), .val (.int p2), .val (.int p3), .val (.int (1 : Int32)), .val (.int y0), .val (.int y1), .val (.int y2), .val (.int y3), .val (.ref b1), .val (.int bt), .val (.long vv), .second, .unset, .unset] []
        refine own_st (fun _ k => XS.lload X13.here hx rfl (hb hby at_174) rfl k) ?_
        show own_Go X13 (Q0 Z p0 p1 p2 p3 h0 n0) 1 4 176 #[.val (.int p0), .val (.int p1), .val (.int p2), .val (.int p3), .val (.int (1 : Int32)), .val (.int y0), .val (.int y1), .val (.int y2), .val (.int y3), .val (.ref b1), .val (.int bt), .val (.long vv), .second, .unset, .unset] [(.long vv)]
        refine own_st (fun _ k => XS.iload X13.here hx rfl (hb hby at_176) rfl k) ?_
        show own_Go X13 (Q0 Z p0 p1 p2 p3 h0 n0) 1 4 178 #[.val (.int p0), .val (.int p1), .val (.int p2), .val (.int p3), .val (.int (1 : Int32)), .val (.int y0), .val (.int y1), .val (.int y2), .val (.int y3), .val (.ref b1), .val (.int bt), .val (.long vv), .second, .unset, .unset] [(.int bt), (.long vv)]
        refine own_st (fun _ k => XS.lushr X13.here hx rfl (hb hby at_178) rfl k) ?_
        show own_Go X13 (Q0 Z p0 p1 p2 p3 h0 n0) 1 4 179 #[.val (.int p0), .val (.int p1), .val (.int p2), .val (.int p3), .val (.int (1 : Int32)), .val (.int y0), .val (.int y1), .val (.int y2), .val (.int y3), .val (.ref b1), .val (.int bt), .val (.long vv), .second, .unset, .unset] [(.long ((vv.toUInt64 >>> (bt &&& 0x3f).toInt64.toUInt64).toInt64))]
        refine own_st (fun _ k => XS.lconst X13.here hx rfl (hb hby at_179) k) ?_
        show own_Go X13 (Q0 Z p0 p1 p2 p3 h0 n0) 1 4 180 #[.val (.int p0), .val (.int p1), .val (.int p2), .val (.int p3), .val (.int (1 : Int32)), .val (.int y0), .val (.int y1), .val (.int y2), .val (.int y3), .val (.ref b1), .val (.int bt), .val (.long vv), .second, .unset, .unset] [(.long (1 : Int64)), (.long ((vv.toUInt64 >>> (bt &&& 0x3f).toInt64.toUInt64).toInt64))]
        refine own_st (fun _ k => XS.land X13.here hx rfl (hb hby at_180) rfl k) ?_
        show own_Go X13 (Q0 Z p0 p1 p2 p3 h0 n0) 1 4 181 #[.val (.int p0), .val (.int p1), .val (.int p2), .val (.int p3), .val (.int (1 : Int32)), .val (.int y0), .val (.int y1), .val (.int y2), .val (.int y3), .val (.ref b1), .val (.int bt), .val (.long vv), .second, .unset, .unset] [(.long (((vv.toUInt64 >>> (bt &&& 0x3f).toInt64.toUInt64).toInt64) &&& (1 : Int64)))]
        refine own_st (fun _ k => XS.lconst X13.here hx rfl (hb hby at_181) k) ?_
        show own_Go X13 (Q0 Z p0 p1 p2 p3 h0 n0) 1 4 182 #[.val (.int p0), .val (.int p1), .val (.int p2), .val (.int p3), .val (.int (1 : Int32)), .val (.int y0), .val (.int y1), .val (.int y2), .val (.int y3), .val (.ref b1), .val (.int bt), .val (.long vv), .second, .unset, .unset] [(.long (1 : Int64)), (.long (((vv.toUInt64 >>> (bt &&& 0x3f).toInt64.toUInt64).toInt64) &&& (1 : Int64)))]
        refine own_st (fun _ k => XS.lcmp X13.here hx rfl (hb hby at_182) rfl k) ?_
        show own_Go X13 (Q0 Z p0 p1 p2 p3 h0 n0) 1 4 183 #[.val (.int p0), .val (.int p1), .val (.int p2), .val (.int p3), .val (.int (1 : Int32)), .val (.int y0), .val (.int y1), .val (.int y2), .val (.int y3), .val (.ref b1), .val (.int bt), .val (.long vv), .second, .unset, .unset] [(.int (lcmpW (((vv.toUInt64 >>> (bt &&& 0x3f).toInt64.toUInt64).toInt64) &&& (1 : Int64)) (1 : Int64)))]
        by_cases c183_36 : (((vv.toUInt64 >>> (bt &&& 0x3f).toInt64.toUInt64).toInt64) &&& (1 : Int64)) = (1 : Int64)
        · skip
          refine own_st (fun _ k => XS.ifNo X13.here hx rfl (hb hby at_183) rfl ((if0 _ _).trans (teq ((lw_eq _ _).mpr c183_36)).2) k) ?_
          show own_Go X13 (Q0 Z p0 p1 p2 p3 h0 n0) 1 4 186 #[.val (.int p0), .val (.int p1), .val (.int p2), .val (.int p3), .val (.int (1 : Int32)), .val (.int y0), .val (.int y1), .val (.int y2), .val (.int y3), .val (.ref b1), .val (.int bt), .val (.long vv), .second, .unset, .unset] []
          refine own_st (fun _ k => XS.iconst X13.here hx rfl (hb hby at_186) k) ?_
          show own_Go X13 (Q0 Z p0 p1 p2 p3 h0 n0) 1 4 187 #[.val (.int p0), .val (.int p1), .val (.int p2), .val (.int p3), .val (.int (1 : Int32)), .val (.int y0), .val (.int y1), .val (.int y2), .val (.int y3), .val (.ref b1), .val (.int bt), .val (.long vv), .second, .unset, .unset] [(.int (1 : Int32))]
          refine own_st (fun _ k => XS.goto X13.here hx rfl (pc0 := 187) (pc' := 191) rfl (hb hby at_187) (by decide) (by decide) k) ?_
          show own_Go X13 (Q0 Z p0 p1 p2 p3 h0 n0) 1 4 191 #[.val (.int p0), .val (.int p1), .val (.int p2), .val (.int p3), .val (.int (1 : Int32)), .val (.int y0), .val (.int y1), .val (.int y2), .val (.int y3), .val (.ref b1), .val (.int bt), .val (.long vv), .second, .unset, .unset] [(.int (1 : Int32))]
          refine own_st (fun _ k => XS.istore X13.here hx rfl (hb hby at_191) rfl (l' := #[.val (.int p0), .val (.int p1), .val (.int p2), .val (.int p3), .val (.int (1 : Int32)), .val (.int y0), .val (.int y1), .val (.int y2), .val (.int y3), .val (.ref b1), .val (.int bt), .val (.long vv), .second, .val (.int (1 : Int32)), .unset]) rfl k) ?_
          show own_Go X13 (Q0 Z p0 p1 p2 p3 h0 n0) 1 4 193 #[.val (.int p0), .val (.int p1), .val (.int p2), .val (.int p3), .val (.int (1 : Int32)), .val (.int y0), .val (.int y1), .val (.int y2), .val (.int y3), .val (.ref b1), .val (.int bt), .val (.long vv), .second, .val (.int (1 : Int32)), .unset] []
          refine own_st (fun _ k => XS.aload X13.here hx rfl (hb hby at_193) rfl rfl k) ?_
          show own_Go X13 (Q0 Z p0 p1 p2 p3 h0 n0) 1 4 195 #[.val (.int p0), .val (.int p1), .val (.int p2), .val (.int p3), .val (.int (1 : Int32)), .val (.int y0), .val (.int y1), .val (.int y2), .val (.int y3), .val (.ref b1), .val (.int bt), .val (.long vv), .second, .val (.int (1 : Int32)), .unset] [(.ref b1)]
          refine own_st (fun _ k => XS.iload X13.here hx rfl (hb hby at_195) rfl k) ?_
          show own_Go X13 (Q0 Z p0 p1 p2 p3 h0 n0) 1 4 197 #[.val (.int p0), .val (.int p1), .val (.int p2), .val (.int p3), .val (.int (1 : Int32)), .val (.int y0), .val (.int y1), .val (.int y2), .val (.int y3), .val (.ref b1), .val (.int bt), .val (.long vv), .second, .val (.int (1 : Int32)), .unset] [(.int (1 : Int32)), (.ref b1)]
          refine own_st (fun _ k => XS.iload X13.here hx rfl (hb hby at_197) rfl k) ?_
          show own_Go X13 (Q0 Z p0 p1 p2 p3 h0 n0) 1 4 199 #[.val (.int p0), .val (.int p1), .val (.int p2), .val (.int p3), .val (.int (1 : Int32)), .val (.int y0), .val (.int y1), .val (.int y2), .val (.int y3), .val (.ref b1), .val (.int bt), .val (.long vv), .second, .val (.int (1 : Int32)), .unset] [(.int bt), (.int (1 : Int32)), (.ref b1)]
          refine own_callS (W := 0) X13 hx hZ hown (hw _ (List.mem_of_getElem? (i := 3) rfl)) (hw _ (List.mem_of_getElem? (i := 4) rfl)) (hw _ (List.mem_of_getElem? (i := 5) rfl)) (hw _ (List.mem_of_getElem? (i := 6) rfl)) (by decide) (rm1 l Z a0 hw [] b1 (1 : Int32) bt k1 (y0.toInt8.toInt32).toInt8.toInt32 (y1.toInt8.toInt32).toInt8.toInt32 (y2.toInt8.toInt32).toInt8.toInt32 (y3.toInt8.toInt32).toInt8.toInt32 h13 n0 Z_14 U13 (own_ixb (k := (1 : Int32)) (kk := 1) (by decide) (by decide) (by decide) hbt)) (by decide) (by decide) (by rw [hml]; rfl) [(.ref b1), (.int (1 : Int32)), (.int bt)] [] (lenOf pd_0_0 rfl) rfl rfl (Nat.le_of_ble_eq_true rfl) (hb hby at_199) e13 (by decide) (by decide) ?_
          rintro _ T37 L37 X37 ⟨rfl, N37q, e37⟩
          have N_38 := Fr.app N_15 N37q
          show own_Go X37 (Q0 Z p0 p1 p2 p3 h0 n0) 1 4 202 #[.val (.int p0), .val (.int p1), .val (.int p2), .val (.int p3), .val (.int (1 : Int32)), .val (.int y0), .val (.int y1), .val (.int y2), .val (.int y3), .val (.ref b1), .val (.int bt), .val (.long vv), .second, .val (.int (1 : Int32)), .unset] [(.int (own_ib (y0.toInt8.toInt32).toInt8.toInt32 (y1.toInt8.toInt32).toInt8.toInt32 (y2.toInt8.toInt32).toInt8.toInt32 (y3.toInt8.toInt32).toInt8.toInt32 (1 : Int32) bt))]
          refine own_st (fun _ k => XS.istore X37.here hx rfl (hb hby at_202) rfl (l' := #[.val (.int p0), .val (.int p1), .val (.int p2), .val (.int p3), .val (.int (1 : Int32)), .val (.int y0), .val (.int y1), .val (.int y2), .val (.int y3), .val (.ref b1), .val (.int bt), .val (.long vv), .second, .val (.int (1 : Int32)), .val (.int (own_ib (y0.toInt8.toInt32).toInt8.toInt32 (y1.toInt8.toInt32).toInt8.toInt32 (y2.toInt8.toInt32).toInt8.toInt32 (y3.toInt8.toInt32).toInt8.toInt32 (1 : Int32) bt))]) rfl k) ?_
          show own_Go X37 (Q0 Z p0 p1 p2 p3 h0 n0) 1 4 204 #[.val (.int p0), .val (.int p1), .val (.int p2), .val (.int p3), .val (.int (1 : Int32)), .val (.int y0), .val (.int y1), .val (.int y2), .val (.int y3), .val (.ref b1), .val (.int bt), .val (.long vv), .second, .val (.int (1 : Int32)), .val (.int (own_ib (y0.toInt8.toInt32).toInt8.toInt32 (y1.toInt8.toInt32).toInt8.toInt32 (y2.toInt8.toInt32).toInt8.toInt32 (y3.toInt8.toInt32).toInt8.toInt32 (1 : Int32) bt))] []
          refine own_st (fun _ k => XS.iload X37.here hx rfl (hb hby at_204) rfl k) ?_
          show own_Go X37 (Q0 Z p0 p1 p2 p3 h0 n0) 1 4 206 #[.val (.int p0), .val (.int p1), .val (.int p2), .val (.int p3), .val (.int (1 : Int32)), .val (.int y0), .val (.int y1), .val (.int y2), .val (.int y3), .val (.ref b1), .val (.int bt), .val (.long vv), .second, .val (.int (1 : Int32)), .val (.int (own_ib (y0.toInt8.toInt32).toInt8.toInt32 (y1.toInt8.toInt32).toInt8.toInt32 (y2.toInt8.toInt32).toInt8.toInt32 (y3.toInt8.toInt32).toInt8.toInt32 (1 : Int32) bt))] [(.int (own_ib (y0.toInt8.toInt32).toInt8.toInt32 (y1.toInt8.toInt32).toInt8.toInt32 (y2.toInt8.toInt32).toInt8.toInt32 (y3.toInt8.toInt32).toInt8.toInt32 (1 : Int32) bt))]
          refine own_st (fun _ k => XS.iload X37.here hx rfl (hb hby at_206) rfl k) ?_
          show own_Go X37 (Q0 Z p0 p1 p2 p3 h0 n0) 1 4 208 #[.val (.int p0), .val (.int p1), .val (.int p2), .val (.int p3), .val (.int (1 : Int32)), .val (.int y0), .val (.int y1), .val (.int y2), .val (.int y3), .val (.ref b1), .val (.int bt), .val (.long vv), .second, .val (.int (1 : Int32)), .val (.int (own_ib (y0.toInt8.toInt32).toInt8.toInt32 (y1.toInt8.toInt32).toInt8.toInt32 (y2.toInt8.toInt32).toInt8.toInt32 (y3.toInt8.toInt32).toInt8.toInt32 (1 : Int32) bt))] [(.int (1 : Int32)), (.int (own_ib (y0.toInt8.toInt32).toInt8.toInt32 (y1.toInt8.toInt32).toInt8.toInt32 (y2.toInt8.toInt32).toInt8.toInt32 (y3.toInt8.toInt32).toInt8.toInt32 (1 : Int32) bt))]
          have c208_39 : (own_ib (y0.toInt8.toInt32).toInt8.toInt32 (y1.toInt8.toInt32).toInt8.toInt32 (y2.toInt8.toInt32).toInt8.toInt32 (y3.toInt8.toInt32).toInt8.toInt32 (1 : Int32) bt) = (1 : Int32) := by rw [own_m1 z0 hvv' hbt (own_ltN (B := 8) (by decide) c171_35), if_pos c183_36]
          refine own_st (fun _ k => XS.icmpNo X37.here hx rfl (hb hby at_208) rfl (teq c208_39).2 k) ?_
          show own_Go X37 (Q0 Z p0 p1 p2 p3 h0 n0) 1 4 211 #[.val (.int p0), .val (.int p1), .val (.int p2), .val (.int p3), .val (.int (1 : Int32)), .val (.int y0), .val (.int y1), .val (.int y2), .val (.int y3), .val (.ref b1), .val (.int bt), .val (.long vv), .second, .val (.int (1 : Int32)), .val (.int (own_ib (y0.toInt8.toInt32).toInt8.toInt32 (y1.toInt8.toInt32).toInt8.toInt32 (y2.toInt8.toInt32).toInt8.toInt32 (y3.toInt8.toInt32).toInt8.toInt32 (1 : Int32) bt))] []
          refine own_st (fun _ k => XS.iconst X37.here hx rfl (hb hby at_211) k) ?_
          show own_Go X37 (Q0 Z p0 p1 p2 p3 h0 n0) 1 4 212 #[.val (.int p0), .val (.int p1), .val (.int p2), .val (.int p3), .val (.int (1 : Int32)), .val (.int y0), .val (.int y1), .val (.int y2), .val (.int y3), .val (.ref b1), .val (.int bt), .val (.long vv), .second, .val (.int (1 : Int32)), .val (.int (own_ib (y0.toInt8.toInt32).toInt8.toInt32 (y1.toInt8.toInt32).toInt8.toInt32 (y2.toInt8.toInt32).toInt8.toInt32 (y3.toInt8.toInt32).toInt8.toInt32 (1 : Int32) bt))] [(.int (1 : Int32))]
          refine own_st (fun _ k => XS.goto X37.here hx rfl (pc0 := 212) (pc' := 216) rfl (hb hby at_212) (by decide) (by decide) k) ?_
          show own_Go X37 (Q0 Z p0 p1 p2 p3 h0 n0) 1 4 216 #[.val (.int p0), .val (.int p1), .val (.int p2), .val (.int p3), .val (.int (1 : Int32)), .val (.int y0), .val (.int y1), .val (.int y2), .val (.int y3), .val (.ref b1), .val (.int bt), .val (.long vv), .second, .val (.int (1 : Int32)), .val (.int (own_ib (y0.toInt8.toInt32).toInt8.toInt32 (y1.toInt8.toInt32).toInt8.toInt32 (y2.toInt8.toInt32).toInt8.toInt32 (y3.toInt8.toInt32).toInt8.toInt32 (1 : Int32) bt))] [(.int (1 : Int32))]
          refine own_retN X37 hx Bd.returns (by simp) hlk e37 (hb hby at_216) (by decide) (by decide) ?_
          exact ⟨rfl, N_38⟩
        · skip
          refine own_st (fun _ k => XS.ifYes X13.here hx rfl (pc0 := 183) (pc' := 190) rfl (hb hby at_183) rfl ((if0 _ _).trans (feq (fun q => c183_36 ((lw_eq _ _).mp q))).2) (by decide) (by decide) k) ?_
          show own_Go X13 (Q0 Z p0 p1 p2 p3 h0 n0) 1 4 190 #[.val (.int p0), .val (.int p1), .val (.int p2), .val (.int p3), .val (.int (1 : Int32)), .val (.int y0), .val (.int y1), .val (.int y2), .val (.int y3), .val (.ref b1), .val (.int bt), .val (.long vv), .second, .unset, .unset] []
          refine own_st (fun _ k => XS.iconst X13.here hx rfl (hb hby at_190) k) ?_
          show own_Go X13 (Q0 Z p0 p1 p2 p3 h0 n0) 1 4 191 #[.val (.int p0), .val (.int p1), .val (.int p2), .val (.int p3), .val (.int (1 : Int32)), .val (.int y0), .val (.int y1), .val (.int y2), .val (.int y3), .val (.ref b1), .val (.int bt), .val (.long vv), .second, .unset, .unset] [(.int (0 : Int32))]
          refine own_st (fun _ k => XS.istore X13.here hx rfl (hb hby at_191) rfl (l' := #[.val (.int p0), .val (.int p1), .val (.int p2), .val (.int p3), .val (.int (1 : Int32)), .val (.int y0), .val (.int y1), .val (.int y2), .val (.int y3), .val (.ref b1), .val (.int bt), .val (.long vv), .second, .val (.int (0 : Int32)), .unset]) rfl k) ?_
          show own_Go X13 (Q0 Z p0 p1 p2 p3 h0 n0) 1 4 193 #[.val (.int p0), .val (.int p1), .val (.int p2), .val (.int p3), .val (.int (1 : Int32)), .val (.int y0), .val (.int y1), .val (.int y2), .val (.int y3), .val (.ref b1), .val (.int bt), .val (.long vv), .second, .val (.int (0 : Int32)), .unset] []
          refine own_st (fun _ k => XS.aload X13.here hx rfl (hb hby at_193) rfl rfl k) ?_
          show own_Go X13 (Q0 Z p0 p1 p2 p3 h0 n0) 1 4 195 #[.val (.int p0), .val (.int p1), .val (.int p2), .val (.int p3), .val (.int (1 : Int32)), .val (.int y0), .val (.int y1), .val (.int y2), .val (.int y3), .val (.ref b1), .val (.int bt), .val (.long vv), .second, .val (.int (0 : Int32)), .unset] [(.ref b1)]
          refine own_st (fun _ k => XS.iload X13.here hx rfl (hb hby at_195) rfl k) ?_
          show own_Go X13 (Q0 Z p0 p1 p2 p3 h0 n0) 1 4 197 #[.val (.int p0), .val (.int p1), .val (.int p2), .val (.int p3), .val (.int (1 : Int32)), .val (.int y0), .val (.int y1), .val (.int y2), .val (.int y3), .val (.ref b1), .val (.int bt), .val (.long vv), .second, .val (.int (0 : Int32)), .unset] [(.int (1 : Int32)), (.ref b1)]
          refine own_st (fun _ k => XS.iload X13.here hx rfl (hb hby at_197) rfl k) ?_
          show own_Go X13 (Q0 Z p0 p1 p2 p3 h0 n0) 1 4 199 #[.val (.int p0), .val (.int p1), .val (.int p2), .val (.int p3), .val (.int (1 : Int32)), .val (.int y0), .val (.int y1), .val (.int y2), .val (.int y3), .val (.ref b1), .val (.int bt), .val (.long vv), .second, .val (.int (0 : Int32)), .unset] [(.int bt), (.int (1 : Int32)), (.ref b1)]
          refine own_callS (W := 0) X13 hx hZ hown (hw _ (List.mem_of_getElem? (i := 3) rfl)) (hw _ (List.mem_of_getElem? (i := 4) rfl)) (hw _ (List.mem_of_getElem? (i := 5) rfl)) (hw _ (List.mem_of_getElem? (i := 6) rfl)) (by decide) (rm1 l Z a0 hw [] b1 (1 : Int32) bt k1 (y0.toInt8.toInt32).toInt8.toInt32 (y1.toInt8.toInt32).toInt8.toInt32 (y2.toInt8.toInt32).toInt8.toInt32 (y3.toInt8.toInt32).toInt8.toInt32 h13 n0 Z_14 U13 (own_ixb (k := (1 : Int32)) (kk := 1) (by decide) (by decide) (by decide) hbt)) (by decide) (by decide) (by rw [hml]; rfl) [(.ref b1), (.int (1 : Int32)), (.int bt)] [] (lenOf pd_0_0 rfl) rfl rfl (Nat.le_of_ble_eq_true rfl) (hb hby at_199) e13 (by decide) (by decide) ?_
          rintro _ T40 L40 X40 ⟨rfl, N40q, e40⟩
          have N_41 := Fr.app N_15 N40q
          show own_Go X40 (Q0 Z p0 p1 p2 p3 h0 n0) 1 4 202 #[.val (.int p0), .val (.int p1), .val (.int p2), .val (.int p3), .val (.int (1 : Int32)), .val (.int y0), .val (.int y1), .val (.int y2), .val (.int y3), .val (.ref b1), .val (.int bt), .val (.long vv), .second, .val (.int (0 : Int32)), .unset] [(.int (own_ib (y0.toInt8.toInt32).toInt8.toInt32 (y1.toInt8.toInt32).toInt8.toInt32 (y2.toInt8.toInt32).toInt8.toInt32 (y3.toInt8.toInt32).toInt8.toInt32 (1 : Int32) bt))]
          refine own_st (fun _ k => XS.istore X40.here hx rfl (hb hby at_202) rfl (l' := #[.val (.int p0), .val (.int p1), .val (.int p2), .val (.int p3), .val (.int (1 : Int32)), .val (.int y0), .val (.int y1), .val (.int y2), .val (.int y3), .val (.ref b1), .val (.int bt), .val (.long vv), .second, .val (.int (0 : Int32)), .val (.int (own_ib (y0.toInt8.toInt32).toInt8.toInt32 (y1.toInt8.toInt32).toInt8.toInt32 (y2.toInt8.toInt32).toInt8.toInt32 (y3.toInt8.toInt32).toInt8.toInt32 (1 : Int32) bt))]) rfl k) ?_
          show own_Go X40 (Q0 Z p0 p1 p2 p3 h0 n0) 1 4 204 #[.val (.int p0), .val (.int p1), .val (.int p2), .val (.int p3), .val (.int (1 : Int32)), .val (.int y0), .val (.int y1), .val (.int y2), .val (.int y3), .val (.ref b1), .val (.int bt), .val (.long vv), .second, .val (.int (0 : Int32)), .val (.int (own_ib (y0.toInt8.toInt32).toInt8.toInt32 (y1.toInt8.toInt32).toInt8.toInt32 (y2.toInt8.toInt32).toInt8.toInt32 (y3.toInt8.toInt32).toInt8.toInt32 (1 : Int32) bt))] []
          refine own_st (fun _ k => XS.iload X40.here hx rfl (hb hby at_204) rfl k) ?_
          show own_Go X40 (Q0 Z p0 p1 p2 p3 h0 n0) 1 4 206 #[.val (.int p0), .val (.int p1), .val (.int p2), .val (.int p3), .val (.int (1 : Int32)), .val (.int y0), .val (.int y1), .val (.int y2), .val (.int y3), .val (.ref b1), .val (.int bt), .val (.long vv), .second, .val (.int (0 : Int32)), .val (.int (own_ib (y0.toInt8.toInt32).toInt8.toInt32 (y1.toInt8.toInt32).toInt8.toInt32 (y2.toInt8.toInt32).toInt8.toInt32 (y3.toInt8.toInt32).toInt8.toInt32 (1 : Int32) bt))] [(.int (own_ib (y0.toInt8.toInt32).toInt8.toInt32 (y1.toInt8.toInt32).toInt8.toInt32 (y2.toInt8.toInt32).toInt8.toInt32 (y3.toInt8.toInt32).toInt8.toInt32 (1 : Int32) bt))]
          refine own_st (fun _ k => XS.iload X40.here hx rfl (hb hby at_206) rfl k) ?_
          show own_Go X40 (Q0 Z p0 p1 p2 p3 h0 n0) 1 4 208 #[.val (.int p0), .val (.int p1), .val (.int p2), .val (.int p3), .val (.int (1 : Int32)), .val (.int y0), .val (.int y1), .val (.int y2), .val (.int y3), .val (.ref b1), .val (.int bt), .val (.long vv), .second, .val (.int (0 : Int32)), .val (.int (own_ib (y0.toInt8.toInt32).toInt8.toInt32 (y1.toInt8.toInt32).toInt8.toInt32 (y2.toInt8.toInt32).toInt8.toInt32 (y3.toInt8.toInt32).toInt8.toInt32 (1 : Int32) bt))] [(.int (0 : Int32)), (.int (own_ib (y0.toInt8.toInt32).toInt8.toInt32 (y1.toInt8.toInt32).toInt8.toInt32 (y2.toInt8.toInt32).toInt8.toInt32 (y3.toInt8.toInt32).toInt8.toInt32 (1 : Int32) bt))]
          have c208_42 : (own_ib (y0.toInt8.toInt32).toInt8.toInt32 (y1.toInt8.toInt32).toInt8.toInt32 (y2.toInt8.toInt32).toInt8.toInt32 (y3.toInt8.toInt32).toInt8.toInt32 (1 : Int32) bt) = (0 : Int32) := by rw [own_m1 z0 hvv' hbt (own_ltN (B := 8) (by decide) c171_35), if_neg c183_36]
          refine own_st (fun _ k => XS.icmpNo X40.here hx rfl (hb hby at_208) rfl (teq c208_42).2 k) ?_
          show own_Go X40 (Q0 Z p0 p1 p2 p3 h0 n0) 1 4 211 #[.val (.int p0), .val (.int p1), .val (.int p2), .val (.int p3), .val (.int (1 : Int32)), .val (.int y0), .val (.int y1), .val (.int y2), .val (.int y3), .val (.ref b1), .val (.int bt), .val (.long vv), .second, .val (.int (0 : Int32)), .val (.int (own_ib (y0.toInt8.toInt32).toInt8.toInt32 (y1.toInt8.toInt32).toInt8.toInt32 (y2.toInt8.toInt32).toInt8.toInt32 (y3.toInt8.toInt32).toInt8.toInt32 (1 : Int32) bt))] []
          refine own_st (fun _ k => XS.iconst X40.here hx rfl (hb hby at_211) k) ?_
          show own_Go X40 (Q0 Z p0 p1 p2 p3 h0 n0) 1 4 212 #[.val (.int p0), .val (.int p1), .val (.int p2), .val (.int p3), .val (.int (1 : Int32)), .val (.int y0), .val (.int y1), .val (.int y2), .val (.int y3), .val (.ref b1), .val (.int bt), .val (.long vv), .second, .val (.int (0 : Int32)), .val (.int (own_ib (y0.toInt8.toInt32).toInt8.toInt32 (y1.toInt8.toInt32).toInt8.toInt32 (y2.toInt8.toInt32).toInt8.toInt32 (y3.toInt8.toInt32).toInt8.toInt32 (1 : Int32) bt))] [(.int (1 : Int32))]
          refine own_st (fun _ k => XS.goto X40.here hx rfl (pc0 := 212) (pc' := 216) rfl (hb hby at_212) (by decide) (by decide) k) ?_
          show own_Go X40 (Q0 Z p0 p1 p2 p3 h0 n0) 1 4 216 #[.val (.int p0), .val (.int p1), .val (.int p2), .val (.int p3), .val (.int (1 : Int32)), .val (.int y0), .val (.int y1), .val (.int y2), .val (.int y3), .val (.ref b1), .val (.int bt), .val (.long vv), .second, .val (.int (0 : Int32)), .val (.int (own_ib (y0.toInt8.toInt32).toInt8.toInt32 (y1.toInt8.toInt32).toInt8.toInt32 (y2.toInt8.toInt32).toInt8.toInt32 (y3.toInt8.toInt32).toInt8.toInt32 (1 : Int32) bt))] [(.int (1 : Int32))]
          refine own_retN X40 hx Bd.returns (by simp) hlk e40 (hb hby at_216) (by decide) (by decide) ?_
          exact ⟨rfl, N_41⟩
      · skip
        refine own_st (fun _ k => XS.icmpYes X13.here hx rfl (pc0 := 171) (pc' := 190) rfl (hb hby at_171) rfl (flt c171_35).2.1 (by decide) (by decide) k) ?_
        show own_Go X13 (Q0 Z p0 p1 p2 p3 h0 n0) 1 4 190 #[.val (.int p0), .val (.int p1), .val (.int p2), .val (.int p3), .val (.int (1 : Int32)), .val (.int y0), .val (.int y1), .val (.int y2), .val (.int y3), .val (.ref b1), .val (.int bt), .val (.long vv), .second, .unset, .unset] []
        refine own_st (fun _ k => XS.iconst X13.here hx rfl (hb hby at_190) k) ?_
        show own_Go X13 (Q0 Z p0 p1 p2 p3 h0 n0) 1 4 191 #[.val (.int p0), .val (.int p1), .val (.int p2), .val (.int p3), .val (.int (1 : Int32)), .val (.int y0), .val (.int y1), .val (.int y2), .val (.int y3), .val (.ref b1), .val (.int bt), .val (.long vv), .second, .unset, .unset] [(.int (0 : Int32))]
        refine own_st (fun _ k => XS.istore X13.here hx rfl (hb hby at_191) rfl (l' := #[.val (.int p0), .val (.int p1), .val (.int p2), .val (.int p3), .val (.int (1 : Int32)), .val (.int y0), .val (.int y1), .val (.int y2), .val (.int y3), .val (.ref b1), .val (.int bt), .val (.long vv), .second, .val (.int (0 : Int32)), .unset]) rfl k) ?_
        show own_Go X13 (Q0 Z p0 p1 p2 p3 h0 n0) 1 4 193 #[.val (.int p0), .val (.int p1), .val (.int p2), .val (.int p3), .val (.int (1 : Int32)), .val (.int y0), .val (.int y1), .val (.int y2), .val (.int y3), .val (.ref b1), .val (.int bt), .val (.long vv), .second, .val (.int (0 : Int32)), .unset] []
        refine own_st (fun _ k => XS.aload X13.here hx rfl (hb hby at_193) rfl rfl k) ?_
        show own_Go X13 (Q0 Z p0 p1 p2 p3 h0 n0) 1 4 195 #[.val (.int p0), .val (.int p1), .val (.int p2), .val (.int p3), .val (.int (1 : Int32)), .val (.int y0), .val (.int y1), .val (.int y2), .val (.int y3), .val (.ref b1), .val (.int bt), .val (.long vv), .second, .val (.int (0 : Int32)), .unset] [(.ref b1)]
        refine own_st (fun _ k => XS.iload X13.here hx rfl (hb hby at_195) rfl k) ?_
        show own_Go X13 (Q0 Z p0 p1 p2 p3 h0 n0) 1 4 197 #[.val (.int p0), .val (.int p1), .val (.int p2), .val (.int p3), .val (.int (1 : Int32)), .val (.int y0), .val (.int y1), .val (.int y2), .val (.int y3), .val (.ref b1), .val (.int bt), .val (.long vv), .second, .val (.int (0 : Int32)), .unset] [(.int (1 : Int32)), (.ref b1)]
        refine own_st (fun _ k => XS.iload X13.here hx rfl (hb hby at_197) rfl k) ?_
        show own_Go X13 (Q0 Z p0 p1 p2 p3 h0 n0) 1 4 199 #[.val (.int p0), .val (.int p1), .val (.int p2), .val (.int p3), .val (.int (1 : Int32)), .val (.int y0), .val (.int y1), .val (.int y2), .val (.int y3), .val (.ref b1), .val (.int bt), .val (.long vv), .second, .val (.int (0 : Int32)), .unset] [(.int bt), (.int (1 : Int32)), (.ref b1)]
        refine own_callS (W := 0) X13 hx hZ hown (hw _ (List.mem_of_getElem? (i := 3) rfl)) (hw _ (List.mem_of_getElem? (i := 4) rfl)) (hw _ (List.mem_of_getElem? (i := 5) rfl)) (hw _ (List.mem_of_getElem? (i := 6) rfl)) (by decide) (rm1 l Z a0 hw [] b1 (1 : Int32) bt k1 (y0.toInt8.toInt32).toInt8.toInt32 (y1.toInt8.toInt32).toInt8.toInt32 (y2.toInt8.toInt32).toInt8.toInt32 (y3.toInt8.toInt32).toInt8.toInt32 h13 n0 Z_14 U13 (own_ixb (k := (1 : Int32)) (kk := 1) (by decide) (by decide) (by decide) hbt)) (by decide) (by decide) (by rw [hml]; rfl) [(.ref b1), (.int (1 : Int32)), (.int bt)] [] (lenOf pd_0_0 rfl) rfl rfl (Nat.le_of_ble_eq_true rfl) (hb hby at_199) e13 (by decide) (by decide) ?_
        rintro _ T43 L43 X43 ⟨rfl, N43q, e43⟩
        have N_44 := Fr.app N_15 N43q
        show own_Go X43 (Q0 Z p0 p1 p2 p3 h0 n0) 1 4 202 #[.val (.int p0), .val (.int p1), .val (.int p2), .val (.int p3), .val (.int (1 : Int32)), .val (.int y0), .val (.int y1), .val (.int y2), .val (.int y3), .val (.ref b1), .val (.int bt), .val (.long vv), .second, .val (.int (0 : Int32)), .unset] [(.int (own_ib (y0.toInt8.toInt32).toInt8.toInt32 (y1.toInt8.toInt32).toInt8.toInt32 (y2.toInt8.toInt32).toInt8.toInt32 (y3.toInt8.toInt32).toInt8.toInt32 (1 : Int32) bt))]
        refine own_st (fun _ k => XS.istore X43.here hx rfl (hb hby at_202) rfl (l' := #[.val (.int p0), .val (.int p1), .val (.int p2), .val (.int p3), .val (.int (1 : Int32)), .val (.int y0), .val (.int y1), .val (.int y2), .val (.int y3), .val (.ref b1), .val (.int bt), .val (.long vv), .second, .val (.int (0 : Int32)), .val (.int (own_ib (y0.toInt8.toInt32).toInt8.toInt32 (y1.toInt8.toInt32).toInt8.toInt32 (y2.toInt8.toInt32).toInt8.toInt32 (y3.toInt8.toInt32).toInt8.toInt32 (1 : Int32) bt))]) rfl k) ?_
        show own_Go X43 (Q0 Z p0 p1 p2 p3 h0 n0) 1 4 204 #[.val (.int p0), .val (.int p1), .val (.int p2), .val (.int p3), .val (.int (1 : Int32)), .val (.int y0), .val (.int y1), .val (.int y2), .val (.int y3), .val (.ref b1), .val (.int bt), .val (.long vv), .second, .val (.int (0 : Int32)), .val (.int (own_ib (y0.toInt8.toInt32).toInt8.toInt32 (y1.toInt8.toInt32).toInt8.toInt32 (y2.toInt8.toInt32).toInt8.toInt32 (y3.toInt8.toInt32).toInt8.toInt32 (1 : Int32) bt))] []
        refine own_st (fun _ k => XS.iload X43.here hx rfl (hb hby at_204) rfl k) ?_
        show own_Go X43 (Q0 Z p0 p1 p2 p3 h0 n0) 1 4 206 #[.val (.int p0), .val (.int p1), .val (.int p2), .val (.int p3), .val (.int (1 : Int32)), .val (.int y0), .val (.int y1), .val (.int y2), .val (.int y3), .val (.ref b1), .val (.int bt), .val (.long vv), .second, .val (.int (0 : Int32)), .val (.int (own_ib (y0.toInt8.toInt32).toInt8.toInt32 (y1.toInt8.toInt32).toInt8.toInt32 (y2.toInt8.toInt32).toInt8.toInt32 (y3.toInt8.toInt32).toInt8.toInt32 (1 : Int32) bt))] [(.int (own_ib (y0.toInt8.toInt32).toInt8.toInt32 (y1.toInt8.toInt32).toInt8.toInt32 (y2.toInt8.toInt32).toInt8.toInt32 (y3.toInt8.toInt32).toInt8.toInt32 (1 : Int32) bt))]
        refine own_st (fun _ k => XS.iload X43.here hx rfl (hb hby at_206) rfl k) ?_
        show own_Go X43 (Q0 Z p0 p1 p2 p3 h0 n0) 1 4 208 #[.val (.int p0), .val (.int p1), .val (.int p2), .val (.int p3), .val (.int (1 : Int32)), .val (.int y0), .val (.int y1), .val (.int y2), .val (.int y3), .val (.ref b1), .val (.int bt), .val (.long vv), .second, .val (.int (0 : Int32)), .val (.int (own_ib (y0.toInt8.toInt32).toInt8.toInt32 (y1.toInt8.toInt32).toInt8.toInt32 (y2.toInt8.toInt32).toInt8.toInt32 (y3.toInt8.toInt32).toInt8.toInt32 (1 : Int32) bt))] [(.int (0 : Int32)), (.int (own_ib (y0.toInt8.toInt32).toInt8.toInt32 (y1.toInt8.toInt32).toInt8.toInt32 (y2.toInt8.toInt32).toInt8.toInt32 (y3.toInt8.toInt32).toInt8.toInt32 (1 : Int32) bt))]
        have c208_45 : (own_ib (y0.toInt8.toInt32).toInt8.toInt32 (y1.toInt8.toInt32).toInt8.toInt32 (y2.toInt8.toInt32).toInt8.toInt32 (y3.toInt8.toInt32).toInt8.toInt32 (1 : Int32) bt) = (0 : Int32) := own_out (kk := 1) (by decide) (by decide) (by decide) hbt (by have := own_geN (B := 8) (by decide) c171_35; omega)
        refine own_st (fun _ k => XS.icmpNo X43.here hx rfl (hb hby at_208) rfl (teq c208_45).2 k) ?_
        show own_Go X43 (Q0 Z p0 p1 p2 p3 h0 n0) 1 4 211 #[.val (.int p0), .val (.int p1), .val (.int p2), .val (.int p3), .val (.int (1 : Int32)), .val (.int y0), .val (.int y1), .val (.int y2), .val (.int y3), .val (.ref b1), .val (.int bt), .val (.long vv), .second, .val (.int (0 : Int32)), .val (.int (own_ib (y0.toInt8.toInt32).toInt8.toInt32 (y1.toInt8.toInt32).toInt8.toInt32 (y2.toInt8.toInt32).toInt8.toInt32 (y3.toInt8.toInt32).toInt8.toInt32 (1 : Int32) bt))] []
        refine own_st (fun _ k => XS.iconst X43.here hx rfl (hb hby at_211) k) ?_
        show own_Go X43 (Q0 Z p0 p1 p2 p3 h0 n0) 1 4 212 #[.val (.int p0), .val (.int p1), .val (.int p2), .val (.int p3), .val (.int (1 : Int32)), .val (.int y0), .val (.int y1), .val (.int y2), .val (.int y3), .val (.ref b1), .val (.int bt), .val (.long vv), .second, .val (.int (0 : Int32)), .val (.int (own_ib (y0.toInt8.toInt32).toInt8.toInt32 (y1.toInt8.toInt32).toInt8.toInt32 (y2.toInt8.toInt32).toInt8.toInt32 (y3.toInt8.toInt32).toInt8.toInt32 (1 : Int32) bt))] [(.int (1 : Int32))]
        refine own_st (fun _ k => XS.goto X43.here hx rfl (pc0 := 212) (pc' := 216) rfl (hb hby at_212) (by decide) (by decide) k) ?_
        show own_Go X43 (Q0 Z p0 p1 p2 p3 h0 n0) 1 4 216 #[.val (.int p0), .val (.int p1), .val (.int p2), .val (.int p3), .val (.int (1 : Int32)), .val (.int y0), .val (.int y1), .val (.int y2), .val (.int y3), .val (.ref b1), .val (.int bt), .val (.long vv), .second, .val (.int (0 : Int32)), .val (.int (own_ib (y0.toInt8.toInt32).toInt8.toInt32 (y1.toInt8.toInt32).toInt8.toInt32 (y2.toInt8.toInt32).toInt8.toInt32 (y3.toInt8.toInt32).toInt8.toInt32 (1 : Int32) bt))] [(.int (1 : Int32))]
        refine own_retN X43 hx Bd.returns (by simp) hlk e43 (hb hby at_216) (by decide) (by decide) ?_
        exact ⟨rfl, N_44⟩
    · skip
      show own_Go X13 (Q0 Z p0 p1 p2 p3 h0 n0) 1 4 100 #[.val (.int p0), .val (.int p1), .val (.int p2), .val (.int p3), .val (.int (2 : Int32)), .val (.int y0), .val (.int y1), .val (.int y2), .val (.int y3), .val (.ref b1), .val (.int bt), .val (.long (0 : Int64)), .second, .unset, .unset] []
      refine own_st (fun _ k => XS.iload X13.here hx rfl (hb hby at_100) rfl k) ?_
      show own_Go X13 (Q0 Z p0 p1 p2 p3 h0 n0) 1 4 102 #[.val (.int p0), .val (.int p1), .val (.int p2), .val (.int p3), .val (.int (2 : Int32)), .val (.int y0), .val (.int y1), .val (.int y2), .val (.int y3), .val (.ref b1), .val (.int bt), .val (.long (0 : Int64)), .second, .unset, .unset] [(.int (2 : Int32))]
      have c102_46 : (0 : Int32) < (2 : Int32) := (by decide)
      refine own_st (fun _ k => XS.ifNo X13.here hx rfl (hb hby at_102) rfl ((if0 _ _).trans (tlt c102_46).2.2.2) k) ?_
      show own_Go X13 (Q0 Z p0 p1 p2 p3 h0 n0) 1 4 105 #[.val (.int p0), .val (.int p1), .val (.int p2), .val (.int p3), .val (.int (2 : Int32)), .val (.int y0), .val (.int y1), .val (.int y2), .val (.int y3), .val (.ref b1), .val (.int bt), .val (.long (0 : Int64)), .second, .unset, .unset] []
      refine own_st (fun _ k => XS.iload X13.here hx rfl (hb hby at_105) rfl k) ?_
      show own_Go X13 (Q0 Z p0 p1 p2 p3 h0 n0) 1 4 107 #[.val (.int p0), .val (.int p1), .val (.int p2), .val (.int p3), .val (.int (2 : Int32)), .val (.int y0), .val (.int y1), .val (.int y2), .val (.int y3), .val (.ref b1), .val (.int bt), .val (.long (0 : Int64)), .second, .unset, .unset] [(.int y0)]
      refine own_st (fun _ k => XS.i2l X13.here hx rfl (hb hby at_107) rfl k) ?_
      show own_Go X13 (Q0 Z p0 p1 p2 p3 h0 n0) 1 4 108 #[.val (.int p0), .val (.int p1), .val (.int p2), .val (.int p3), .val (.int (2 : Int32)), .val (.int y0), .val (.int y1), .val (.int y2), .val (.int y3), .val (.ref b1), .val (.int bt), .val (.long (0 : Int64)), .second, .unset, .unset] [(.long (y0.toInt64))]
      refine own_st (fun _ k => XS.lstore X13.here hx rfl (hb hby at_108) rfl (l' := #[.val (.int p0), .val (.int p1), .val (.int p2), .val (.int p3), .val (.int (2 : Int32)), .val (.int y0), .val (.int y1), .val (.int y2), .val (.int y3), .val (.ref b1), .val (.int bt), .val (.long (y0.toInt64)), .second, .unset, .unset]) rfl k) ?_
      show own_Go X13 (Q0 Z p0 p1 p2 p3 h0 n0) 1 4 110 #[.val (.int p0), .val (.int p1), .val (.int p2), .val (.int p3), .val (.int (2 : Int32)), .val (.int y0), .val (.int y1), .val (.int y2), .val (.int y3), .val (.ref b1), .val (.int bt), .val (.long (y0.toInt64)), .second, .unset, .unset] []
      refine own_st (fun _ k => XS.iload X13.here hx rfl (hb hby at_110) rfl k) ?_
      show own_Go X13 (Q0 Z p0 p1 p2 p3 h0 n0) 1 4 112 #[.val (.int p0), .val (.int p1), .val (.int p2), .val (.int p3), .val (.int (2 : Int32)), .val (.int y0), .val (.int y1), .val (.int y2), .val (.int y3), .val (.ref b1), .val (.int bt), .val (.long (y0.toInt64)), .second, .unset, .unset] [(.int (2 : Int32))]
      refine own_st (fun _ k => XS.iconst X13.here hx rfl (hb hby at_112) k) ?_
      show own_Go X13 (Q0 Z p0 p1 p2 p3 h0 n0) 1 4 113 #[.val (.int p0), .val (.int p1), .val (.int p2), .val (.int p3), .val (.int (2 : Int32)), .val (.int y0), .val (.int y1), .val (.int y2), .val (.int y3), .val (.ref b1), .val (.int bt), .val (.long (y0.toInt64)), .second, .unset, .unset] [(.int (1 : Int32)), (.int (2 : Int32))]
      have c113_47 : (1 : Int32) < (2 : Int32) := (by decide)
      refine own_st (fun _ k => XS.icmpNo X13.here hx rfl (hb hby at_113) rfl (tlt c113_47).2.2.2 k) ?_
      show own_Go X13 (Q0 Z p0 p1 p2 p3 h0 n0) 1 4 116 #[.val (.int p0), .val (.int p1), .val (.int p2), .val (.int p3), .val (.int (2 : Int32)), .val (.int y0), .val (.int y1), .val (.int y2), .val (.int y3), .val (.ref b1), .val (.int bt), .val (.long (y0.toInt64)), .second, .unset, .unset] []
      refine own_st (fun _ k => XS.lload X13.here hx rfl (hb hby at_116) rfl k) ?_
      show own_Go X13 (Q0 Z p0 p1 p2 p3 h0 n0) 1 4 118 #[.val (.int p0), .val (.int p1), .val (.int p2), .val (.int p3), .val (.int (2 : Int32)), .val (.int y0), .val (.int y1), .val (.int y2), .val (.int y3), .val (.ref b1), .val (.int bt), .val (.long (y0.toInt64)), .second, .unset, .unset] [(.long (y0.toInt64))]
      refine own_st (fun t k => X13.ldc2Long hx hown (mvT hZ (hw _ (List.mem_of_getElem? (i := 2) rfl))) (g := (mkF m 118 #[.val (.int p0), .val (.int p1), .val (.int p2), .val (.int p3), .val (.int (2 : Int32)), .val (.int y0), .val (.int y1), .val (.int y2), .val (.int y3), .val (.ref b1), .val (.int bt), .val (.long (y0.toInt64)), .second, .unset, .unset] [(.long (y0.toInt64))])) rfl (hb hby at_118) t k) ?_
      show own_Go X13 (Q0 Z p0 p1 p2 p3 h0 n0) 1 4 121 #[.val (.int p0), .val (.int p1), .val (.int p2), .val (.int p3), .val (.int (2 : Int32)), .val (.int y0), .val (.int y1), .val (.int y2), .val (.int y3), .val (.ref b1), .val (.int bt), .val (.long (y0.toInt64)), .second, .unset, .unset] [(.long (256 : Int64)), (.long (y0.toInt64))]
      refine own_st (fun _ k => XS.lmul X13.here hx rfl (hb hby at_121) rfl k) ?_
      show own_Go X13 (Q0 Z p0 p1 p2 p3 h0 n0) 1 4 122 #[.val (.int p0), .val (.int p1), .val (.int p2), .val (.int p3), .val (.int (2 : Int32)), .val (.int y0), .val (.int y1), .val (.int y2), .val (.int y3), .val (.ref b1), .val (.int bt), .val (.long (y0.toInt64)), .second, .unset, .unset] [(.long ((y0.toInt64) * (256 : Int64)))]
      refine own_st (fun _ k => XS.iload X13.here hx rfl (hb hby at_122) rfl k) ?_
      show own_Go X13 (Q0 Z p0 p1 p2 p3 h0 n0) 1 4 124 #[.val (.int p0), .val (.int p1), .val (.int p2), .val (.int p3), .val (.int (2 : Int32)), .val (.int y0), .val (.int y1), .val (.int y2), .val (.int y3), .val (.ref b1), .val (.int bt), .val (.long (y0.toInt64)), .second, .unset, .unset] [(.int y1), (.long ((y0.toInt64) * (256 : Int64)))]
      refine own_st (fun _ k => XS.i2l X13.here hx rfl (hb hby at_124) rfl k) ?_
      show own_Go X13 (Q0 Z p0 p1 p2 p3 h0 n0) 1 4 125 #[.val (.int p0), .val (.int p1), .val (.int p2), .val (.int p3), .val (.int (2 : Int32)), .val (.int y0), .val (.int y1), .val (.int y2), .val (.int y3), .val (.ref b1), .val (.int bt), .val (.long (y0.toInt64)), .second, .unset, .unset] [(.long (y1.toInt64)), (.long ((y0.toInt64) * (256 : Int64)))]
      refine own_st (fun _ k => XS.ladd X13.here hx rfl (hb hby at_125) rfl k) ?_
      show own_Go X13 (Q0 Z p0 p1 p2 p3 h0 n0) 1 4 126 #[.val (.int p0), .val (.int p1), .val (.int p2), .val (.int p3), .val (.int (2 : Int32)), .val (.int y0), .val (.int y1), .val (.int y2), .val (.int y3), .val (.ref b1), .val (.int bt), .val (.long (y0.toInt64)), .second, .unset, .unset] [(.long (((y0.toInt64) * (256 : Int64)) + (y1.toInt64)))]
      refine own_st (fun _ k => XS.lstore X13.here hx rfl (hb hby at_126) rfl (l' := #[.val (.int p0), .val (.int p1), .val (.int p2), .val (.int p3), .val (.int (2 : Int32)), .val (.int y0), .val (.int y1), .val (.int y2), .val (.int y3), .val (.ref b1), .val (.int bt), .val (.long (((y0.toInt64) * (256 : Int64)) + (y1.toInt64))), .second, .unset, .unset]) rfl k) ?_
      show own_Go X13 (Q0 Z p0 p1 p2 p3 h0 n0) 1 4 128 #[.val (.int p0), .val (.int p1), .val (.int p2), .val (.int p3), .val (.int (2 : Int32)), .val (.int y0), .val (.int y1), .val (.int y2), .val (.int y3), .val (.ref b1), .val (.int bt), .val (.long (((y0.toInt64) * (256 : Int64)) + (y1.toInt64))), .second, .unset, .unset] []
      refine own_st (fun _ k => XS.iload X13.here hx rfl (hb hby at_128) rfl k) ?_
      show own_Go X13 (Q0 Z p0 p1 p2 p3 h0 n0) 1 4 130 #[.val (.int p0), .val (.int p1), .val (.int p2), .val (.int p3), .val (.int (2 : Int32)), .val (.int y0), .val (.int y1), .val (.int y2), .val (.int y3), .val (.ref b1), .val (.int bt), .val (.long (((y0.toInt64) * (256 : Int64)) + (y1.toInt64))), .second, .unset, .unset] [(.int (2 : Int32))]
      refine own_st (fun _ k => XS.iconst X13.here hx rfl (hb hby at_130) k) ?_
      show own_Go X13 (Q0 Z p0 p1 p2 p3 h0 n0) 1 4 131 #[.val (.int p0), .val (.int p1), .val (.int p2), .val (.int p3), .val (.int (2 : Int32)), .val (.int y0), .val (.int y1), .val (.int y2), .val (.int y3), .val (.ref b1), .val (.int bt), .val (.long (((y0.toInt64) * (256 : Int64)) + (y1.toInt64))), .second, .unset, .unset] [(.int (2 : Int32)), (.int (2 : Int32))]
      have c131_48 : ¬ ((2 : Int32) < (2 : Int32)) := (by decide)
      refine own_st (fun _ k => XS.icmpYes X13.here hx rfl (pc0 := 131) (pc' := 146) rfl (hb hby at_131) rfl (flt c131_48).2.2.2 (by decide) (by decide) k) ?_
      show own_Go X13 (Q0 Z p0 p1 p2 p3 h0 n0) 1 4 146 #[.val (.int p0), .val (.int p1), .val (.int p2), .val (.int p3), .val (.int (2 : Int32)), .val (.int y0), .val (.int y1), .val (.int y2), .val (.int y3), .val (.ref b1), .val (.int bt), .val (.long (((y0.toInt64) * (256 : Int64)) + (y1.toInt64))), .second, .unset, .unset] []
      refine own_st (fun _ k => XS.iload X13.here hx rfl (hb hby at_146) rfl k) ?_
      show own_Go X13 (Q0 Z p0 p1 p2 p3 h0 n0) 1 4 148 #[.val (.int p0), .val (.int p1), .val (.int p2), .val (.int p3), .val (.int (2 : Int32)), .val (.int y0), .val (.int y1), .val (.int y2), .val (.int y3), .val (.ref b1), .val (.int bt), .val (.long (((y0.toInt64) * (256 : Int64)) + (y1.toInt64))), .second, .unset, .unset] [(.int (2 : Int32))]
      refine own_st (fun _ k => XS.iconst X13.here hx rfl (hb hby at_148) k) ?_
      show own_Go X13 (Q0 Z p0 p1 p2 p3 h0 n0) 1 4 149 #[.val (.int p0), .val (.int p1), .val (.int p2), .val (.int p3), .val (.int (2 : Int32)), .val (.int y0), .val (.int y1), .val (.int y2), .val (.int y3), .val (.ref b1), .val (.int bt), .val (.long (((y0.toInt64) * (256 : Int64)) + (y1.toInt64))), .second, .unset, .unset] [(.int (3 : Int32)), (.int (2 : Int32))]
      have c149_49 : ¬ ((3 : Int32) < (2 : Int32)) := (by decide)
      refine own_st (fun _ k => XS.icmpYes X13.here hx rfl (pc0 := 149) (pc' := 164) rfl (hb hby at_149) rfl (flt c149_49).2.2.2 (by decide) (by decide) k) ?_
      show own_Go X13 (Q0 Z p0 p1 p2 p3 h0 n0) 1 4 164 #[.val (.int p0), .val (.int p1), .val (.int p2), .val (.int p3), .val (.int (2 : Int32)), .val (.int y0), .val (.int y1), .val (.int y2), .val (.int y3), .val (.ref b1), .val (.int bt), .val (.long (((y0.toInt64) * (256 : Int64)) + (y1.toInt64))), .second, .unset, .unset] []
      generalize hvv : (((y0.toInt64) * (256 : Int64)) + (y1.toInt64)) = vv
      show own_Go X13 (Q0 Z p0 p1 p2 p3 h0 n0) 1 4 164 #[.val (.int p0), .val (.int p1), .val (.int p2), .val (.int p3), .val (.int (2 : Int32)), .val (.int y0), .val (.int y1), .val (.int y2), .val (.int y3), .val (.ref b1), .val (.int bt), .val (.long vv), .second, .unset, .unset] []
      have z0 := own_b255 hy0
      have z1 := own_b255 hy1
      have z2 := own_b255 hy2
      have z3 := own_b255 hy3
      have hvv' : vv.toInt = y0.toInt * 256 + y1.toInt := by rw [← hvv]; exact (own_h (c_i2l y0) (by omega) (by omega) (own_b255 hy1))
      refine own_st (fun _ k => XS.iload X13.here hx rfl (hb hby at_164) rfl k) ?_
      show own_Go X13 (Q0 Z p0 p1 p2 p3 h0 n0) 1 4 166 #[.val (.int p0), .val (.int p1), .val (.int p2), .val (.int p3), .val (.int (2 : Int32)), .val (.int y0), .val (.int y1), .val (.int y2), .val (.int y3), .val (.ref b1), .val (.int bt), .val (.long vv), .second, .unset, .unset] [(.int bt)]
      refine own_st (fun _ k => XS.bipush X13.here hx rfl (hb hby at_166) k) ?_
      show own_Go X13 (Q0 Z p0 p1 p2 p3 h0 n0) 1 4 168 #[.val (.int p0), .val (.int p1), .val (.int p2), .val (.int p3), .val (.int (2 : Int32)), .val (.int y0), .val (.int y1), .val (.int y2), .val (.int y3), .val (.ref b1), .val (.int bt), .val (.long vv), .second, .unset, .unset] [(.int (8 : Int32)), (.int bt)]
      refine own_st (fun _ k => XS.iload X13.here hx rfl (hb hby at_168) rfl k) ?_
      show own_Go X13 (Q0 Z p0 p1 p2 p3 h0 n0) 1 4 170 #[.val (.int p0), .val (.int p1), .val (.int p2), .val (.int p3), .val (.int (2 : Int32)), .val (.int y0), .val (.int y1), .val (.int y2), .val (.int y3), .val (.ref b1), .val (.int bt), .val (.long vv), .second, .unset, .unset] [(.int (2 : Int32)), (.int (8 : Int32)), (.int bt)]
      refine own_st (fun _ k => XS.imul X13.here hx rfl (hb hby at_170) rfl k) ?_
      show own_Go X13 (Q0 Z p0 p1 p2 p3 h0 n0) 1 4 171 #[.val (.int p0), .val (.int p1), .val (.int p2), .val (.int p3), .val (.int (2 : Int32)), .val (.int y0), .val (.int y1), .val (.int y2), .val (.int y3), .val (.ref b1), .val (.int bt), .val (.long vv), .second, .unset, .unset] [(.int (16 : Int32)), (.int bt)]
      by_cases c171_50 : bt < (16 : Int32)
      · skip
        refine own_st (fun _ k => XS.icmpNo X13.here hx rfl (hb hby at_171) rfl (tlt c171_50).2.1 k) ?_
        show own_Go X13 (Q0 Z p0 p1 p2 p3 h0 n0) 1 4 174 #[.val (.int p0), .val (.int p1), .val (.int p2), .val (.int p3), .val (.int (2 : Int32)), .val (.int y0), .val (.int y1), .val (.int y2), .val (.int y3), .val (.ref b1), .val (.int bt), .val (.long vv), .second, .unset, .unset] []
        refine own_st (fun _ k => XS.lload X13.here hx rfl (hb hby at_174) rfl k) ?_
        show own_Go X13 (Q0 Z p0 p1 p2 p3 h0 n0) 1 4 176 #[.val (.int p0), .val (.int p1), .val (.int p2), .val (.int p3), .val (.int (2 : Int32)), .val (.int y0), .val (.int y1), .val (.int y2), .val (.int y3), .val (.ref b1), .val (.int bt), .val (.long vv), .second, .unset, .unset] [(.long vv)]
        refine own_st (fun _ k => XS.iload X13.here hx rfl (hb hby at_176) rfl k) ?_
        show own_Go X13 (Q0 Z p0 p1 p2 p3 h0 n0) 1 4 178 #[.val (.int p0), .val (.int p1), .val (.int p2), .val (.int p3), .val (.int (2 : Int32)), .val (.int y0), .val (.int y1), .val (.int y2), .val (.int y3), .val (.ref b1), .val (.int bt), .val (.long vv), .second, .unset, .unset] [(.int bt), (.long vv)]
        refine own_st (fun _ k => XS.lushr X13.here hx rfl (hb hby at_178) rfl k) ?_
        show own_Go X13 (Q0 Z p0 p1 p2 p3 h0 n0) 1 4 179 #[.val (.int p0), .val (.int p1), .val (.int p2), .val (.int p3), .val (.int (2 : Int32)), .val (.int y0), .val (.int y1), .val (.int y2), .val (.int y3), .val (.ref b1), .val (.int bt), .val (.long vv), .second, .unset, .unset] [(.long ((vv.toUInt64 >>> (bt &&& 0x3f).toInt64.toUInt64).toInt64))]
        refine own_st (fun _ k => XS.lconst X13.here hx rfl (hb hby at_179) k) ?_
        show own_Go X13 (Q0 Z p0 p1 p2 p3 h0 n0) 1 4 180 #[.val (.int p0), .val (.int p1), .val (.int p2), .val (.int p3), .val (.int (2 : Int32)), .val (.int y0), .val (.int y1), .val (.int y2), .val (.int y3), .val (.ref b1), .val (.int bt), .val (.long vv), .second, .unset, .unset] [(.long (1 : Int64)), (.long ((vv.toUInt64 >>> (bt &&& 0x3f).toInt64.toUInt64).toInt64))]
        refine own_st (fun _ k => XS.land X13.here hx rfl (hb hby at_180) rfl k) ?_
        show own_Go X13 (Q0 Z p0 p1 p2 p3 h0 n0) 1 4 181 #[.val (.int p0), .val (.int p1), .val (.int p2), .val (.int p3), .val (.int (2 : Int32)), .val (.int y0), .val (.int y1), .val (.int y2), .val (.int y3), .val (.ref b1), .val (.int bt), .val (.long vv), .second, .unset, .unset] [(.long (((vv.toUInt64 >>> (bt &&& 0x3f).toInt64.toUInt64).toInt64) &&& (1 : Int64)))]
        refine own_st (fun _ k => XS.lconst X13.here hx rfl (hb hby at_181) k) ?_
        show own_Go X13 (Q0 Z p0 p1 p2 p3 h0 n0) 1 4 182 #[.val (.int p0), .val (.int p1), .val (.int p2), .val (.int p3), .val (.int (2 : Int32)), .val (.int y0), .val (.int y1), .val (.int y2), .val (.int y3), .val (.ref b1), .val (.int bt), .val (.long vv), .second, .unset, .unset] [(.long (1 : Int64)), (.long (((vv.toUInt64 >>> (bt &&& 0x3f).toInt64.toUInt64).toInt64) &&& (1 : Int64)))]
        refine own_st (fun _ k => XS.lcmp X13.here hx rfl (hb hby at_182) rfl k) ?_
        show own_Go X13 (Q0 Z p0 p1 p2 p3 h0 n0) 1 4 183 #[.val (.int p0), .val (.int p1), .val (.int p2), .val (.int p3), .val (.int (2 : Int32)), .val (.int y0), .val (.int y1), .val (.int y2), .val (.int y3), .val (.ref b1), .val (.int bt), .val (.long vv), .second, .unset, .unset] [(.int (lcmpW (((vv.toUInt64 >>> (bt &&& 0x3f).toInt64.toUInt64).toInt64) &&& (1 : Int64)) (1 : Int64)))]
        by_cases c183_51 : (((vv.toUInt64 >>> (bt &&& 0x3f).toInt64.toUInt64).toInt64) &&& (1 : Int64)) = (1 : Int64)
        · skip
          refine own_st (fun _ k => XS.ifNo X13.here hx rfl (hb hby at_183) rfl ((if0 _ _).trans (teq ((lw_eq _ _).mpr c183_51)).2) k) ?_
          show own_Go X13 (Q0 Z p0 p1 p2 p3 h0 n0) 1 4 186 #[.val (.int p0), .val (.int p1), .val (.int p2), .val (.int p3), .val (.int (2 : Int32)), .val (.int y0), .val (.int y1), .val (.int y2), .val (.int y3), .val (.ref b1), .val (.int bt), .val (.long vv), .second, .unset, .unset] []
          refine own_st (fun _ k => XS.iconst X13.here hx rfl (hb hby at_186) k) ?_
          show own_Go X13 (Q0 Z p0 p1 p2 p3 h0 n0) 1 4 187 #[.val (.int p0), .val (.int p1), .val (.int p2), .val (.int p3), .val (.int (2 : Int32)), .val (.int y0), .val (.int y1), .val (.int y2), .val (.int y3), .val (.ref b1), .val (.int bt), .val (.long vv), .second, .unset, .unset] [(.int (1 : Int32))]
          refine own_st (fun _ k => XS.goto X13.here hx rfl (pc0 := 187) (pc' := 191) rfl (hb hby at_187) (by decide) (by decide) k) ?_
          show own_Go X13 (Q0 Z p0 p1 p2 p3 h0 n0) 1 4 191 #[.val (.int p0), .val (.int p1), .val (.int p2), .val (.int p3), .val (.int (2 : Int32)), .val (.int y0), .val (.int y1), .val (.int y2), .val (.int y3), .val (.ref b1), .val (.int bt), .val (.long vv), .second, .unset, .unset] [(.int (1 : Int32))]
          refine own_st (fun _ k => XS.istore X13.here hx rfl (hb hby at_191) rfl (l' := #[.val (.int p0), .val (.int p1), .val (.int p2), .val (.int p3), .val (.int (2 : Int32)), .val (.int y0), .val (.int y1), .val (.int y2), .val (.int y3), .val (.ref b1), .val (.int bt), .val (.long vv), .second, .val (.int (1 : Int32)), .unset]) rfl k) ?_
          show own_Go X13 (Q0 Z p0 p1 p2 p3 h0 n0) 1 4 193 #[.val (.int p0), .val (.int p1), .val (.int p2), .val (.int p3), .val (.int (2 : Int32)), .val (.int y0), .val (.int y1), .val (.int y2), .val (.int y3), .val (.ref b1), .val (.int bt), .val (.long vv), .second, .val (.int (1 : Int32)), .unset] []
          refine own_st (fun _ k => XS.aload X13.here hx rfl (hb hby at_193) rfl rfl k) ?_
          show own_Go X13 (Q0 Z p0 p1 p2 p3 h0 n0) 1 4 195 #[.val (.int p0), .val (.int p1), .val (.int p2), .val (.int p3), .val (.int (2 : Int32)), .val (.int y0), .val (.int y1), .val (.int y2), .val (.int y3), .val (.ref b1), .val (.int bt), .val (.long vv), .second, .val (.int (1 : Int32)), .unset] [(.ref b1)]
          refine own_st (fun _ k => XS.iload X13.here hx rfl (hb hby at_195) rfl k) ?_
          show own_Go X13 (Q0 Z p0 p1 p2 p3 h0 n0) 1 4 197 #[.val (.int p0), .val (.int p1), .val (.int p2), .val (.int p3), .val (.int (2 : Int32)), .val (.int y0), .val (.int y1), .val (.int y2), .val (.int y3), .val (.ref b1), .val (.int bt), .val (.long vv), .second, .val (.int (1 : Int32)), .unset] [(.int (2 : Int32)), (.ref b1)]
          refine own_st (fun _ k => XS.iload X13.here hx rfl (hb hby at_197) rfl k) ?_
          show own_Go X13 (Q0 Z p0 p1 p2 p3 h0 n0) 1 4 199 #[.val (.int p0), .val (.int p1), .val (.int p2), .val (.int p3), .val (.int (2 : Int32)), .val (.int y0), .val (.int y1), .val (.int y2), .val (.int y3), .val (.ref b1), .val (.int bt), .val (.long vv), .second, .val (.int (1 : Int32)), .unset] [(.int bt), (.int (2 : Int32)), (.ref b1)]
          refine own_callS (W := 0) X13 hx hZ hown (hw _ (List.mem_of_getElem? (i := 3) rfl)) (hw _ (List.mem_of_getElem? (i := 4) rfl)) (hw _ (List.mem_of_getElem? (i := 5) rfl)) (hw _ (List.mem_of_getElem? (i := 6) rfl)) (by decide) (rm1 l Z a0 hw [] b1 (2 : Int32) bt k1 (y0.toInt8.toInt32).toInt8.toInt32 (y1.toInt8.toInt32).toInt8.toInt32 (y2.toInt8.toInt32).toInt8.toInt32 (y3.toInt8.toInt32).toInt8.toInt32 h13 n0 Z_14 U13 (own_ixb (k := (2 : Int32)) (kk := 2) (by decide) (by decide) (by decide) hbt)) (by decide) (by decide) (by rw [hml]; rfl) [(.ref b1), (.int (2 : Int32)), (.int bt)] [] (lenOf pd_0_0 rfl) rfl rfl (Nat.le_of_ble_eq_true rfl) (hb hby at_199) e13 (by decide) (by decide) ?_
          rintro _ T52 L52 X52 ⟨rfl, N52q, e52⟩
          have N_53 := Fr.app N_15 N52q
          show own_Go X52 (Q0 Z p0 p1 p2 p3 h0 n0) 1 4 202 #[.val (.int p0), .val (.int p1), .val (.int p2), .val (.int p3), .val (.int (2 : Int32)), .val (.int y0), .val (.int y1), .val (.int y2), .val (.int y3), .val (.ref b1), .val (.int bt), .val (.long vv), .second, .val (.int (1 : Int32)), .unset] [(.int (own_ib (y0.toInt8.toInt32).toInt8.toInt32 (y1.toInt8.toInt32).toInt8.toInt32 (y2.toInt8.toInt32).toInt8.toInt32 (y3.toInt8.toInt32).toInt8.toInt32 (2 : Int32) bt))]
          refine own_st (fun _ k => XS.istore X52.here hx rfl (hb hby at_202) rfl (l' := #[.val (.int p0), .val (.int p1), .val (.int p2), .val (.int p3), .val (.int (2 : Int32)), .val (.int y0), .val (.int y1), .val (.int y2), .val (.int y3), .val (.ref b1), .val (.int bt), .val (.long vv), .second, .val (.int (1 : Int32)), .val (.int (own_ib (y0.toInt8.toInt32).toInt8.toInt32 (y1.toInt8.toInt32).toInt8.toInt32 (y2.toInt8.toInt32).toInt8.toInt32 (y3.toInt8.toInt32).toInt8.toInt32 (2 : Int32) bt))]) rfl k) ?_
          show own_Go X52 (Q0 Z p0 p1 p2 p3 h0 n0) 1 4 204 #[.val (.int p0), .val (.int p1), .val (.int p2), .val (.int p3), .val (.int (2 : Int32)), .val (.int y0), .val (.int y1), .val (.int y2), .val (.int y3), .val (.ref b1), .val (.int bt), .val (.long vv), .second, .val (.int (1 : Int32)), .val (.int (own_ib (y0.toInt8.toInt32).toInt8.toInt32 (y1.toInt8.toInt32).toInt8.toInt32 (y2.toInt8.toInt32).toInt8.toInt32 (y3.toInt8.toInt32).toInt8.toInt32 (2 : Int32) bt))] []
          refine own_st (fun _ k => XS.iload X52.here hx rfl (hb hby at_204) rfl k) ?_
          show own_Go X52 (Q0 Z p0 p1 p2 p3 h0 n0) 1 4 206 #[.val (.int p0), .val (.int p1), .val (.int p2), .val (.int p3), .val (.int (2 : Int32)), .val (.int y0), .val (.int y1), .val (.int y2), .val (.int y3), .val (.ref b1), .val (.int bt), .val (.long vv), .second, .val (.int (1 : Int32)), .val (.int (own_ib (y0.toInt8.toInt32).toInt8.toInt32 (y1.toInt8.toInt32).toInt8.toInt32 (y2.toInt8.toInt32).toInt8.toInt32 (y3.toInt8.toInt32).toInt8.toInt32 (2 : Int32) bt))] [(.int (own_ib (y0.toInt8.toInt32).toInt8.toInt32 (y1.toInt8.toInt32).toInt8.toInt32 (y2.toInt8.toInt32).toInt8.toInt32 (y3.toInt8.toInt32).toInt8.toInt32 (2 : Int32) bt))]
          refine own_st (fun _ k => XS.iload X52.here hx rfl (hb hby at_206) rfl k) ?_
          show own_Go X52 (Q0 Z p0 p1 p2 p3 h0 n0) 1 4 208 #[.val (.int p0), .val (.int p1), .val (.int p2), .val (.int p3), .val (.int (2 : Int32)), .val (.int y0), .val (.int y1), .val (.int y2), .val (.int y3), .val (.ref b1), .val (.int bt), .val (.long vv), .second, .val (.int (1 : Int32)), .val (.int (own_ib (y0.toInt8.toInt32).toInt8.toInt32 (y1.toInt8.toInt32).toInt8.toInt32 (y2.toInt8.toInt32).toInt8.toInt32 (y3.toInt8.toInt32).toInt8.toInt32 (2 : Int32) bt))] [(.int (1 : Int32)), (.int (own_ib (y0.toInt8.toInt32).toInt8.toInt32 (y1.toInt8.toInt32).toInt8.toInt32 (y2.toInt8.toInt32).toInt8.toInt32 (y3.toInt8.toInt32).toInt8.toInt32 (2 : Int32) bt))]
          have c208_54 : (own_ib (y0.toInt8.toInt32).toInt8.toInt32 (y1.toInt8.toInt32).toInt8.toInt32 (y2.toInt8.toInt32).toInt8.toInt32 (y3.toInt8.toInt32).toInt8.toInt32 (2 : Int32) bt) = (1 : Int32) := by rw [own_m2 z0 z1 hvv' hbt (own_ltN (B := 16) (by decide) c171_50), if_pos c183_51]
          refine own_st (fun _ k => XS.icmpNo X52.here hx rfl (hb hby at_208) rfl (teq c208_54).2 k) ?_
          show own_Go X52 (Q0 Z p0 p1 p2 p3 h0 n0) 1 4 211 #[.val (.int p0), .val (.int p1), .val (.int p2), .val (.int p3), .val (.int (2 : Int32)), .val (.int y0), .val (.int y1), .val (.int y2), .val (.int y3), .val (.ref b1), .val (.int bt), .val (.long vv), .second, .val (.int (1 : Int32)), .val (.int (own_ib (y0.toInt8.toInt32).toInt8.toInt32 (y1.toInt8.toInt32).toInt8.toInt32 (y2.toInt8.toInt32).toInt8.toInt32 (y3.toInt8.toInt32).toInt8.toInt32 (2 : Int32) bt))] []
          refine own_st (fun _ k => XS.iconst X52.here hx rfl (hb hby at_211) k) ?_
          show own_Go X52 (Q0 Z p0 p1 p2 p3 h0 n0) 1 4 212 #[.val (.int p0), .val (.int p1), .val (.int p2), .val (.int p3), .val (.int (2 : Int32)), .val (.int y0), .val (.int y1), .val (.int y2), .val (.int y3), .val (.ref b1), .val (.int bt), .val (.long vv), .second, .val (.int (1 : Int32)), .val (.int (own_ib (y0.toInt8.toInt32).toInt8.toInt32 (y1.toInt8.toInt32).toInt8.toInt32 (y2.toInt8.toInt32).toInt8.toInt32 (y3.toInt8.toInt32).toInt8.toInt32 (2 : Int32) bt))] [(.int (1 : Int32))]
          refine own_st (fun _ k => XS.goto X52.here hx rfl (pc0 := 212) (pc' := 216) rfl (hb hby at_212) (by decide) (by decide) k) ?_
          show own_Go X52 (Q0 Z p0 p1 p2 p3 h0 n0) 1 4 216 #[.val (.int p0), .val (.int p1), .val (.int p2), .val (.int p3), .val (.int (2 : Int32)), .val (.int y0), .val (.int y1), .val (.int y2), .val (.int y3), .val (.ref b1), .val (.int bt), .val (.long vv), .second, .val (.int (1 : Int32)), .val (.int (own_ib (y0.toInt8.toInt32).toInt8.toInt32 (y1.toInt8.toInt32).toInt8.toInt32 (y2.toInt8.toInt32).toInt8.toInt32 (y3.toInt8.toInt32).toInt8.toInt32 (2 : Int32) bt))] [(.int (1 : Int32))]
          refine own_retN X52 hx Bd.returns (by simp) hlk e52 (hb hby at_216) (by decide) (by decide) ?_
          exact ⟨rfl, N_53⟩
        · skip
          refine own_st (fun _ k => XS.ifYes X13.here hx rfl (pc0 := 183) (pc' := 190) rfl (hb hby at_183) rfl ((if0 _ _).trans (feq (fun q => c183_51 ((lw_eq _ _).mp q))).2) (by decide) (by decide) k) ?_
          show own_Go X13 (Q0 Z p0 p1 p2 p3 h0 n0) 1 4 190 #[.val (.int p0), .val (.int p1), .val (.int p2), .val (.int p3), .val (.int (2 : Int32)), .val (.int y0), .val (.int y1), .val (.int y2), .val (.int y3), .val (.ref b1), .val (.int bt), .val (.long vv), .second, .unset, .unset] []
          refine own_st (fun _ k => XS.iconst X13.here hx rfl (hb hby at_190) k) ?_
          show own_Go X13 (Q0 Z p0 p1 p2 p3 h0 n0) 1 4 191 #[.val (.int p0), .val (.int p1), .val (.int p2), .val (.int p3), .val (.int (2 : Int32)), .val (.int y0), .val (.int y1), .val (.int y2), .val (.int y3), .val (.ref b1), .val (.int bt), .val (.long vv), .second, .unset, .unset] [(.int (0 : Int32))]
          refine own_st (fun _ k => XS.istore X13.here hx rfl (hb hby at_191) rfl (l' := #[.val (.int p0), .val (.int p1), .val (.int p2), .val (.int p3), .val (.int (2 : Int32)), .val (.int y0), .val (.int y1), .val (.int y2), .val (.int y3), .val (.ref b1), .val (.int bt), .val (.long vv), .second, .val (.int (0 : Int32)), .unset]) rfl k) ?_
          show own_Go X13 (Q0 Z p0 p1 p2 p3 h0 n0) 1 4 193 #[.val (.int p0), .val (.int p1), .val (.int p2), .val (.int p3), .val (.int (2 : Int32)), .val (.int y0), .val (.int y1), .val (.int y2), .val (.int y3), .val (.ref b1), .val (.int bt), .val (.long vv), .second, .val (.int (0 : Int32)), .unset] []
          refine own_st (fun _ k => XS.aload X13.here hx rfl (hb hby at_193) rfl rfl k) ?_
          show own_Go X13 (Q0 Z p0 p1 p2 p3 h0 n0) 1 4 195 #[.val (.int p0), .val (.int p1), .val (.int p2), .val (.int p3), .val (.int (2 : Int32)), .val (.int y0), .val (.int y1), .val (.int y2), .val (.int y3), .val (.ref b1), .val (.int bt), .val (.long vv), .second, .val (.int (0 : Int32)), .unset] [(.ref b1)]
          refine own_st (fun _ k => XS.iload X13.here hx rfl (hb hby at_195) rfl k) ?_
          show own_Go X13 (Q0 Z p0 p1 p2 p3 h0 n0) 1 4 197 #[.val (.int p0), .val (.int p1), .val (.int p2), .val (.int p3), .val (.int (2 : Int32)), .val (.int y0), .val (.int y1), .val (.int y2), .val (.int y3), .val (.ref b1), .val (.int bt), .val (.long vv), .second, .val (.int (0 : Int32)), .unset] [(.int (2 : Int32)), (.ref b1)]
          refine own_st (fun _ k => XS.iload X13.here hx rfl (hb hby at_197) rfl k) ?_
          show own_Go X13 (Q0 Z p0 p1 p2 p3 h0 n0) 1 4 199 #[.val (.int p0), .val (.int p1), .val (.int p2), .val (.int p3), .val (.int (2 : Int32)), .val (.int y0), .val (.int y1), .val (.int y2), .val (.int y3), .val (.ref b1), .val (.int bt), .val (.long vv), .second, .val (.int (0 : Int32)), .unset] [(.int bt), (.int (2 : Int32)), (.ref b1)]
          refine own_callS (W := 0) X13 hx hZ hown (hw _ (List.mem_of_getElem? (i := 3) rfl)) (hw _ (List.mem_of_getElem? (i := 4) rfl)) (hw _ (List.mem_of_getElem? (i := 5) rfl)) (hw _ (List.mem_of_getElem? (i := 6) rfl)) (by decide) (rm1 l Z a0 hw [] b1 (2 : Int32) bt k1 (y0.toInt8.toInt32).toInt8.toInt32 (y1.toInt8.toInt32).toInt8.toInt32 (y2.toInt8.toInt32).toInt8.toInt32 (y3.toInt8.toInt32).toInt8.toInt32 h13 n0 Z_14 U13 (own_ixb (k := (2 : Int32)) (kk := 2) (by decide) (by decide) (by decide) hbt)) (by decide) (by decide) (by rw [hml]; rfl) [(.ref b1), (.int (2 : Int32)), (.int bt)] [] (lenOf pd_0_0 rfl) rfl rfl (Nat.le_of_ble_eq_true rfl) (hb hby at_199) e13 (by decide) (by decide) ?_
          rintro _ T55 L55 X55 ⟨rfl, N55q, e55⟩
          have N_56 := Fr.app N_15 N55q
          show own_Go X55 (Q0 Z p0 p1 p2 p3 h0 n0) 1 4 202 #[.val (.int p0), .val (.int p1), .val (.int p2), .val (.int p3), .val (.int (2 : Int32)), .val (.int y0), .val (.int y1), .val (.int y2), .val (.int y3), .val (.ref b1), .val (.int bt), .val (.long vv), .second, .val (.int (0 : Int32)), .unset] [(.int (own_ib (y0.toInt8.toInt32).toInt8.toInt32 (y1.toInt8.toInt32).toInt8.toInt32 (y2.toInt8.toInt32).toInt8.toInt32 (y3.toInt8.toInt32).toInt8.toInt32 (2 : Int32) bt))]
          refine own_st (fun _ k => XS.istore X55.here hx rfl (hb hby at_202) rfl (l' := #[.val (.int p0), .val (.int p1), .val (.int p2), .val (.int p3), .val (.int (2 : Int32)), .val (.int y0), .val (.int y1), .val (.int y2), .val (.int y3), .val (.ref b1), .val (.int bt), .val (.long vv), .second, .val (.int (0 : Int32)), .val (.int (own_ib (y0.toInt8.toInt32).toInt8.toInt32 (y1.toInt8.toInt32).toInt8.toInt32 (y2.toInt8.toInt32).toInt8.toInt32 (y3.toInt8.toInt32).toInt8.toInt32 (2 : Int32) bt))]) rfl k) ?_
          show own_Go X55 (Q0 Z p0 p1 p2 p3 h0 n0) 1 4 204 #[.val (.int p0), .val (.int p1), .val (.int p2), .val (.int p3), .val (.int (2 : Int32)), .val (.int y0), .val (.int y1), .val (.int y2), .val (.int y3), .val (.ref b1), .val (.int bt), .val (.long vv), .second, .val (.int (0 : Int32)), .val (.int (own_ib (y0.toInt8.toInt32).toInt8.toInt32 (y1.toInt8.toInt32).toInt8.toInt32 (y2.toInt8.toInt32).toInt8.toInt32 (y3.toInt8.toInt32).toInt8.toInt32 (2 : Int32) bt))] []
          refine own_st (fun _ k => XS.iload X55.here hx rfl (hb hby at_204) rfl k) ?_
          show own_Go X55 (Q0 Z p0 p1 p2 p3 h0 n0) 1 4 206 #[.val (.int p0), .val (.int p1), .val (.int p2), .val (.int p3), .val (.int (2 : Int32)), .val (.int y0), .val (.int y1), .val (.int y2), .val (.int y3), .val (.ref b1), .val (.int bt), .val (.long vv), .second, .val (.int (0 : Int32)), .val (.int (own_ib (y0.toInt8.toInt32).toInt8.toInt32 (y1.toInt8.toInt32).toInt8.toInt32 (y2.toInt8.toInt32).toInt8.toInt32 (y3.toInt8.toInt32).toInt8.toInt32 (2 : Int32) bt))] [(.int (own_ib (y0.toInt8.toInt32).toInt8.toInt32 (y1.toInt8.toInt32).toInt8.toInt32 (y2.toInt8.toInt32).toInt8.toInt32 (y3.toInt8.toInt32).toInt8.toInt32 (2 : Int32) bt))]
          refine own_st (fun _ k => XS.iload X55.here hx rfl (hb hby at_206) rfl k) ?_
          show own_Go X55 (Q0 Z p0 p1 p2 p3 h0 n0) 1 4 208 #[.val (.int p0), .val (.int p1), .val (.int p2), .val (.int p3), .val (.int (2 : Int32)), .val (.int y0), .val (.int y1), .val (.int y2), .val (.int y3), .val (.ref b1), .val (.int bt), .val (.long vv), .second, .val (.int (0 : Int32)), .val (.int (own_ib (y0.toInt8.toInt32).toInt8.toInt32 (y1.toInt8.toInt32).toInt8.toInt32 (y2.toInt8.toInt32).toInt8.toInt32 (y3.toInt8.toInt32).toInt8.toInt32 (2 : Int32) bt))] [(.int (0 : Int32)), (.int (own_ib (y0.toInt8.toInt32).toInt8.toInt32 (y1.toInt8.toInt32).toInt8.toInt32 (y2.toInt8.toInt32).toInt8.toInt32 (y3.toInt8.toInt32).toInt8.toInt32 (2 : Int32) bt))]
          have c208_57 : (own_ib (y0.toInt8.toInt32).toInt8.toInt32 (y1.toInt8.toInt32).toInt8.toInt32 (y2.toInt8.toInt32).toInt8.toInt32 (y3.toInt8.toInt32).toInt8.toInt32 (2 : Int32) bt) = (0 : Int32) := by rw [own_m2 z0 z1 hvv' hbt (own_ltN (B := 16) (by decide) c171_50), if_neg c183_51]
          refine own_st (fun _ k => XS.icmpNo X55.here hx rfl (hb hby at_208) rfl (teq c208_57).2 k) ?_
          show own_Go X55 (Q0 Z p0 p1 p2 p3 h0 n0) 1 4 211 #[.val (.int p0), .val (.int p1), .val (.int p2), .val (.int p3), .val (.int (2 : Int32)), .val (.int y0), .val (.int y1), .val (.int y2), .val (.int y3), .val (.ref b1), .val (.int bt), .val (.long vv), .second, .val (.int (0 : Int32)), .val (.int (own_ib (y0.toInt8.toInt32).toInt8.toInt32 (y1.toInt8.toInt32).toInt8.toInt32 (y2.toInt8.toInt32).toInt8.toInt32 (y3.toInt8.toInt32).toInt8.toInt32 (2 : Int32) bt))] []
          refine own_st (fun _ k => XS.iconst X55.here hx rfl (hb hby at_211) k) ?_
          show own_Go X55 (Q0 Z p0 p1 p2 p3 h0 n0) 1 4 212 #[.val (.int p0), .val (.int p1), .val (.int p2), .val (.int p3), .val (.int (2 : Int32)), .val (.int y0), .val (.int y1), .val (.int y2), .val (.int y3), .val (.ref b1), .val (.int bt), .val (.long vv), .second, .val (.int (0 : Int32)), .val (.int (own_ib (y0.toInt8.toInt32).toInt8.toInt32 (y1.toInt8.toInt32).toInt8.toInt32 (y2.toInt8.toInt32).toInt8.toInt32 (y3.toInt8.toInt32).toInt8.toInt32 (2 : Int32) bt))] [(.int (1 : Int32))]
          refine own_st (fun _ k => XS.goto X55.here hx rfl (pc0 := 212) (pc' := 216) rfl (hb hby at_212) (by decide) (by decide) k) ?_
          show own_Go X55 (Q0 Z p0 p1 p2 p3 h0 n0) 1 4 216 #[.val (.int p0), .val (.int p1), .val (.int p2), .val (.int p3), .val (.int (2 : Int32)), .val (.int y0), .val (.int y1), .val (.int y2), .val (.int y3), .val (.ref b1), .val (.int bt), .val (.long vv), .second, .val (.int (0 : Int32)), .val (.int (own_ib (y0.toInt8.toInt32).toInt8.toInt32 (y1.toInt8.toInt32).toInt8.toInt32 (y2.toInt8.toInt32).toInt8.toInt32 (y3.toInt8.toInt32).toInt8.toInt32 (2 : Int32) bt))] [(.int (1 : Int32))]
          refine own_retN X55 hx Bd.returns (by simp) hlk e55 (hb hby at_216) (by decide) (by decide) ?_
          exact ⟨rfl, N_56⟩
      · skip
        refine own_st (fun _ k => XS.icmpYes X13.here hx rfl (pc0 := 171) (pc' := 190) rfl (hb hby at_171) rfl (flt c171_50).2.1 (by decide) (by decide) k) ?_
        show own_Go X13 (Q0 Z p0 p1 p2 p3 h0 n0) 1 4 190 #[.val (.int p0), .val (.int p1), .val (.int p2), .val (.int p3), .val (.int (2 : Int32)), .val (.int y0), .val (.int y1), .val (.int y2), .val (.int y3), .val (.ref b1), .val (.int bt), .val (.long vv), .second, .unset, .unset] []
        refine own_st (fun _ k => XS.iconst X13.here hx rfl (hb hby at_190) k) ?_
        show own_Go X13 (Q0 Z p0 p1 p2 p3 h0 n0) 1 4 191 #[.val (.int p0), .val (.int p1), .val (.int p2), .val (.int p3), .val (.int (2 : Int32)), .val (.int y0), .val (.int y1), .val (.int y2), .val (.int y3), .val (.ref b1), .val (.int bt), .val (.long vv), .second, .unset, .unset] [(.int (0 : Int32))]
        refine own_st (fun _ k => XS.istore X13.here hx rfl (hb hby at_191) rfl (l' := #[.val (.int p0), .val (.int p1), .val (.int p2), .val (.int p3), .val (.int (2 : Int32)), .val (.int y0), .val (.int y1), .val (.int y2), .val (.int y3), .val (.ref b1), .val (.int bt), .val (.long vv), .second, .val (.int (0 : Int32)), .unset]) rfl k) ?_
        show own_Go X13 (Q0 Z p0 p1 p2 p3 h0 n0) 1 4 193 #[.val (.int p0), .val (.int p1), .val (.int p2), .val (.int p3), .val (.int (2 : Int32)), .val (.int y0), .val (.int y1), .val (.int y2), .val (.int y3), .val (.ref b1), .val (.int bt), .val (.long vv), .second, .val (.int (0 : Int32)), .unset] []
        refine own_st (fun _ k => XS.aload X13.here hx rfl (hb hby at_193) rfl rfl k) ?_
        show own_Go X13 (Q0 Z p0 p1 p2 p3 h0 n0) 1 4 195 #[.val (.int p0), .val (.int p1), .val (.int p2), .val (.int p3), .val (.int (2 : Int32)), .val (.int y0), .val (.int y1), .val (.int y2), .val (.int y3), .val (.ref b1), .val (.int bt), .val (.long vv), .second, .val (.int (0 : Int32)), .unset] [(.ref b1)]
        refine own_st (fun _ k => XS.iload X13.here hx rfl (hb hby at_195) rfl k) ?_
        show own_Go X13 (Q0 Z p0 p1 p2 p3 h0 n0) 1 4 197 #[.val (.int p0), .val (.int p1), .val (.int p2), .val (.int p3), .val (.int (2 : Int32)), .val (.int y0), .val (.int y1), .val (.int y2), .val (.int y3), .val (.ref b1), .val (.int bt), .val (.long vv), .second, .val (.int (0 : Int32)), .unset] [(.int (2 : Int32)), (.ref b1)]
        refine own_st (fun _ k => XS.iload X13.here hx rfl (hb hby at_197) rfl k) ?_
        show own_Go X13 (Q0 Z p0 p1 p2 p3 h0 n0) 1 4 199 #[.val (.int p0), .val (.int p1), .val (.int p2), .val (.int p3), .val (.int (2 : Int32)), .val (.int y0), .val (.int y1), .val (.int y2), .val (.int y3), .val (.ref b1), .val (.int bt), .val (.long vv), .second, .val (.int (0 : Int32)), .unset] [(.int bt), (.int (2 : Int32)), (.ref b1)]
        refine own_callS (W := 0) X13 hx hZ hown (hw _ (List.mem_of_getElem? (i := 3) rfl)) (hw _ (List.mem_of_getElem? (i := 4) rfl)) (hw _ (List.mem_of_getElem? (i := 5) rfl)) (hw _ (List.mem_of_getElem? (i := 6) rfl)) (by decide) (rm1 l Z a0 hw [] b1 (2 : Int32) bt k1 (y0.toInt8.toInt32).toInt8.toInt32 (y1.toInt8.toInt32).toInt8.toInt32 (y2.toInt8.toInt32).toInt8.toInt32 (y3.toInt8.toInt32).toInt8.toInt32 h13 n0 Z_14 U13 (own_ixb (k := (2 : Int32)) (kk := 2) (by decide) (by decide) (by decide) hbt)) (by decide) (by decide) (by rw [hml]; rfl) [(.ref b1), (.int (2 : Int32)), (.int bt)] [] (lenOf pd_0_0 rfl) rfl rfl (Nat.le_of_ble_eq_true rfl) (hb hby at_199) e13 (by decide) (by decide) ?_
        rintro _ T58 L58 X58 ⟨rfl, N58q, e58⟩
        have N_59 := Fr.app N_15 N58q
        show own_Go X58 (Q0 Z p0 p1 p2 p3 h0 n0) 1 4 202 #[.val (.int p0), .val (.int p1), .val (.int p2), .val (.int p3), .val (.int (2 : Int32)), .val (.int y0), .val (.int y1), .val (.int y2), .val (.int y3), .val (.ref b1), .val (.int bt), .val (.long vv), .second, .val (.int (0 : Int32)), .unset] [(.int (own_ib (y0.toInt8.toInt32).toInt8.toInt32 (y1.toInt8.toInt32).toInt8.toInt32 (y2.toInt8.toInt32).toInt8.toInt32 (y3.toInt8.toInt32).toInt8.toInt32 (2 : Int32) bt))]
        refine own_st (fun _ k => XS.istore X58.here hx rfl (hb hby at_202) rfl (l' := #[.val (.int p0), .val (.int p1), .val (.int p2), .val (.int p3), .val (.int (2 : Int32)), .val (.int y0), .val (.int y1), .val (.int y2), .val (.int y3), .val (.ref b1), .val (.int bt), .val (.long vv), .second, .val (.int (0 : Int32)), .val (.int (own_ib (y0.toInt8.toInt32).toInt8.toInt32 (y1.toInt8.toInt32).toInt8.toInt32 (y2.toInt8.toInt32).toInt8.toInt32 (y3.toInt8.toInt32).toInt8.toInt32 (2 : Int32) bt))]) rfl k) ?_
        show own_Go X58 (Q0 Z p0 p1 p2 p3 h0 n0) 1 4 204 #[.val (.int p0), .val (.int p1), .val (.int p2), .val (.int p3), .val (.int (2 : Int32)), .val (.int y0), .val (.int y1), .val (.int y2), .val (.int y3), .val (.ref b1), .val (.int bt), .val (.long vv), .second, .val (.int (0 : Int32)), .val (.int (own_ib (y0.toInt8.toInt32).toInt8.toInt32 (y1.toInt8.toInt32).toInt8.toInt32 (y2.toInt8.toInt32).toInt8.toInt32 (y3.toInt8.toInt32).toInt8.toInt32 (2 : Int32) bt))] []
        refine own_st (fun _ k => XS.iload X58.here hx rfl (hb hby at_204) rfl k) ?_
        show own_Go X58 (Q0 Z p0 p1 p2 p3 h0 n0) 1 4 206 #[.val (.int p0), .val (.int p1), .val (.int p2), .val (.int p3), .val (.int (2 : Int32)), .val (.int y0), .val (.int y1), .val (.int y2), .val (.int y3), .val (.ref b1), .val (.int bt), .val (.long vv), .second, .val (.int (0 : Int32)), .val (.int (own_ib (y0.toInt8.toInt32).toInt8.toInt32 (y1.toInt8.toInt32).toInt8.toInt32 (y2.toInt8.toInt32).toInt8.toInt32 (y3.toInt8.toInt32).toInt8.toInt32 (2 : Int32) bt))] [(.int (own_ib (y0.toInt8.toInt32).toInt8.toInt32 (y1.toInt8.toInt32).toInt8.toInt32 (y2.toInt8.toInt32).toInt8.toInt32 (y3.toInt8.toInt32).toInt8.toInt32 (2 : Int32) bt))]
        refine own_st (fun _ k => XS.iload X58.here hx rfl (hb hby at_206) rfl k) ?_
        show own_Go X58 (Q0 Z p0 p1 p2 p3 h0 n0) 1 4 208 #[.val (.int p0), .val (.int p1), .val (.int p2), .val (.int p3), .val (.int (2 : Int32)), .val (.int y0), .val (.int y1), .val (.int y2), .val (.int y3), .val (.ref b1), .val (.int bt), .val (.long vv), .second, .val (.int (0 : Int32)), .val (.int (own_ib (y0.toInt8.toInt32).toInt8.toInt32 (y1.toInt8.toInt32).toInt8.toInt32 (y2.toInt8.toInt32).toInt8.toInt32 (y3.toInt8.toInt32).toInt8.toInt32 (2 : Int32) bt))] [(.int (0 : Int32)), (.int (own_ib (y0.toInt8.toInt32).toInt8.toInt32 (y1.toInt8.toInt32).toInt8.toInt32 (y2.toInt8.toInt32).toInt8.toInt32 (y3.toInt8.toInt32).toInt8.toInt32 (2 : Int32) bt))]
        have c208_60 : (own_ib (y0.toInt8.toInt32).toInt8.toInt32 (y1.toInt8.toInt32).toInt8.toInt32 (y2.toInt8.toInt32).toInt8.toInt32 (y3.toInt8.toInt32).toInt8.toInt32 (2 : Int32) bt) = (0 : Int32) := own_out (kk := 2) (by decide) (by decide) (by decide) hbt (by have := own_geN (B := 16) (by decide) c171_50; omega)
        refine own_st (fun _ k => XS.icmpNo X58.here hx rfl (hb hby at_208) rfl (teq c208_60).2 k) ?_
        show own_Go X58 (Q0 Z p0 p1 p2 p3 h0 n0) 1 4 211 #[.val (.int p0), .val (.int p1), .val (.int p2), .val (.int p3), .val (.int (2 : Int32)), .val (.int y0), .val (.int y1), .val (.int y2), .val (.int y3), .val (.ref b1), .val (.int bt), .val (.long vv), .second, .val (.int (0 : Int32)), .val (.int (own_ib (y0.toInt8.toInt32).toInt8.toInt32 (y1.toInt8.toInt32).toInt8.toInt32 (y2.toInt8.toInt32).toInt8.toInt32 (y3.toInt8.toInt32).toInt8.toInt32 (2 : Int32) bt))] []
        refine own_st (fun _ k => XS.iconst X58.here hx rfl (hb hby at_211) k) ?_
        show own_Go X58 (Q0 Z p0 p1 p2 p3 h0 n0) 1 4 212 #[.val (.int p0), .val (.int p1), .val (.int p2), .val (.int p3), .val (.int (2 : Int32)), .val (.int y0), .val (.int y1), .val (.int y2), .val (.int y3), .val (.ref b1), .val (.int bt), .val (.long vv), .second, .val (.int (0 : Int32)), .val (.int (own_ib (y0.toInt8.toInt32).toInt8.toInt32 (y1.toInt8.toInt32).toInt8.toInt32 (y2.toInt8.toInt32).toInt8.toInt32 (y3.toInt8.toInt32).toInt8.toInt32 (2 : Int32) bt))] [(.int (1 : Int32))]
        refine own_st (fun _ k => XS.goto X58.here hx rfl (pc0 := 212) (pc' := 216) rfl (hb hby at_212) (by decide) (by decide) k) ?_
        show own_Go X58 (Q0 Z p0 p1 p2 p3 h0 n0) 1 4 216 #[.val (.int p0), .val (.int p1), .val (.int p2), .val (.int p3), .val (.int (2 : Int32)), .val (.int y0), .val (.int y1), .val (.int y2), .val (.int y3), .val (.ref b1), .val (.int bt), .val (.long vv), .second, .val (.int (0 : Int32)), .val (.int (own_ib (y0.toInt8.toInt32).toInt8.toInt32 (y1.toInt8.toInt32).toInt8.toInt32 (y2.toInt8.toInt32).toInt8.toInt32 (y3.toInt8.toInt32).toInt8.toInt32 (2 : Int32) bt))] [(.int (1 : Int32))]
        refine own_retN X58 hx Bd.returns (by simp) hlk e58 (hb hby at_216) (by decide) (by decide) ?_
        exact ⟨rfl, N_59⟩
    · skip
      show own_Go X13 (Q0 Z p0 p1 p2 p3 h0 n0) 1 4 100 #[.val (.int p0), .val (.int p1), .val (.int p2), .val (.int p3), .val (.int (3 : Int32)), .val (.int y0), .val (.int y1), .val (.int y2), .val (.int y3), .val (.ref b1), .val (.int bt), .val (.long (0 : Int64)), .second, .unset, .unset] []
      refine own_st (fun _ k => XS.iload X13.here hx rfl (hb hby at_100) rfl k) ?_
      show own_Go X13 (Q0 Z p0 p1 p2 p3 h0 n0) 1 4 102 #[.val (.int p0), .val (.int p1), .val (.int p2), .val (.int p3), .val (.int (3 : Int32)), .val (.int y0), .val (.int y1), .val (.int y2), .val (.int y3), .val (.ref b1), .val (.int bt), .val (.long (0 : Int64)), .second, .unset, .unset] [(.int (3 : Int32))]
      have c102_61 : (0 : Int32) < (3 : Int32) := (by decide)
      refine own_st (fun _ k => XS.ifNo X13.here hx rfl (hb hby at_102) rfl ((if0 _ _).trans (tlt c102_61).2.2.2) k) ?_
      show own_Go X13 (Q0 Z p0 p1 p2 p3 h0 n0) 1 4 105 #[.val (.int p0), .val (.int p1), .val (.int p2), .val (.int p3), .val (.int (3 : Int32)), .val (.int y0), .val (.int y1), .val (.int y2), .val (.int y3), .val (.ref b1), .val (.int bt), .val (.long (0 : Int64)), .second, .unset, .unset] []
      refine own_st (fun _ k => XS.iload X13.here hx rfl (hb hby at_105) rfl k) ?_
      show own_Go X13 (Q0 Z p0 p1 p2 p3 h0 n0) 1 4 107 #[.val (.int p0), .val (.int p1), .val (.int p2), .val (.int p3), .val (.int (3 : Int32)), .val (.int y0), .val (.int y1), .val (.int y2), .val (.int y3), .val (.ref b1), .val (.int bt), .val (.long (0 : Int64)), .second, .unset, .unset] [(.int y0)]
      refine own_st (fun _ k => XS.i2l X13.here hx rfl (hb hby at_107) rfl k) ?_
      show own_Go X13 (Q0 Z p0 p1 p2 p3 h0 n0) 1 4 108 #[.val (.int p0), .val (.int p1), .val (.int p2), .val (.int p3), .val (.int (3 : Int32)), .val (.int y0), .val (.int y1), .val (.int y2), .val (.int y3), .val (.ref b1), .val (.int bt), .val (.long (0 : Int64)), .second, .unset, .unset] [(.long (y0.toInt64))]
      refine own_st (fun _ k => XS.lstore X13.here hx rfl (hb hby at_108) rfl (l' := #[.val (.int p0), .val (.int p1), .val (.int p2), .val (.int p3), .val (.int (3 : Int32)), .val (.int y0), .val (.int y1), .val (.int y2), .val (.int y3), .val (.ref b1), .val (.int bt), .val (.long (y0.toInt64)), .second, .unset, .unset]) rfl k) ?_
      show own_Go X13 (Q0 Z p0 p1 p2 p3 h0 n0) 1 4 110 #[.val (.int p0), .val (.int p1), .val (.int p2), .val (.int p3), .val (.int (3 : Int32)), .val (.int y0), .val (.int y1), .val (.int y2), .val (.int y3), .val (.ref b1), .val (.int bt), .val (.long (y0.toInt64)), .second, .unset, .unset] []
      refine own_st (fun _ k => XS.iload X13.here hx rfl (hb hby at_110) rfl k) ?_
      show own_Go X13 (Q0 Z p0 p1 p2 p3 h0 n0) 1 4 112 #[.val (.int p0), .val (.int p1), .val (.int p2), .val (.int p3), .val (.int (3 : Int32)), .val (.int y0), .val (.int y1), .val (.int y2), .val (.int y3), .val (.ref b1), .val (.int bt), .val (.long (y0.toInt64)), .second, .unset, .unset] [(.int (3 : Int32))]
      refine own_st (fun _ k => XS.iconst X13.here hx rfl (hb hby at_112) k) ?_
      show own_Go X13 (Q0 Z p0 p1 p2 p3 h0 n0) 1 4 113 #[.val (.int p0), .val (.int p1), .val (.int p2), .val (.int p3), .val (.int (3 : Int32)), .val (.int y0), .val (.int y1), .val (.int y2), .val (.int y3), .val (.ref b1), .val (.int bt), .val (.long (y0.toInt64)), .second, .unset, .unset] [(.int (1 : Int32)), (.int (3 : Int32))]
      have c113_62 : (1 : Int32) < (3 : Int32) := (by decide)
      refine own_st (fun _ k => XS.icmpNo X13.here hx rfl (hb hby at_113) rfl (tlt c113_62).2.2.2 k) ?_
      show own_Go X13 (Q0 Z p0 p1 p2 p3 h0 n0) 1 4 116 #[.val (.int p0), .val (.int p1), .val (.int p2), .val (.int p3), .val (.int (3 : Int32)), .val (.int y0), .val (.int y1), .val (.int y2), .val (.int y3), .val (.ref b1), .val (.int bt), .val (.long (y0.toInt64)), .second, .unset, .unset] []
      refine own_st (fun _ k => XS.lload X13.here hx rfl (hb hby at_116) rfl k) ?_
      show own_Go X13 (Q0 Z p0 p1 p2 p3 h0 n0) 1 4 118 #[.val (.int p0), .val (.int p1), .val (.int p2), .val (.int p3), .val (.int (3 : Int32)), .val (.int y0), .val (.int y1), .val (.int y2), .val (.int y3), .val (.ref b1), .val (.int bt), .val (.long (y0.toInt64)), .second, .unset, .unset] [(.long (y0.toInt64))]
      refine own_st (fun t k => X13.ldc2Long hx hown (mvT hZ (hw _ (List.mem_of_getElem? (i := 2) rfl))) (g := (mkF m 118 #[.val (.int p0), .val (.int p1), .val (.int p2), .val (.int p3), .val (.int (3 : Int32)), .val (.int y0), .val (.int y1), .val (.int y2), .val (.int y3), .val (.ref b1), .val (.int bt), .val (.long (y0.toInt64)), .second, .unset, .unset] [(.long (y0.toInt64))])) rfl (hb hby at_118) t k) ?_
      show own_Go X13 (Q0 Z p0 p1 p2 p3 h0 n0) 1 4 121 #[.val (.int p0), .val (.int p1), .val (.int p2), .val (.int p3), .val (.int (3 : Int32)), .val (.int y0), .val (.int y1), .val (.int y2), .val (.int y3), .val (.ref b1), .val (.int bt), .val (.long (y0.toInt64)), .second, .unset, .unset] [(.long (256 : Int64)), (.long (y0.toInt64))]
      refine own_st (fun _ k => XS.lmul X13.here hx rfl (hb hby at_121) rfl k) ?_
      show own_Go X13 (Q0 Z p0 p1 p2 p3 h0 n0) 1 4 122 #[.val (.int p0), .val (.int p1), .val (.int p2), .val (.int p3), .val (.int (3 : Int32)), .val (.int y0), .val (.int y1), .val (.int y2), .val (.int y3), .val (.ref b1), .val (.int bt), .val (.long (y0.toInt64)), .second, .unset, .unset] [(.long ((y0.toInt64) * (256 : Int64)))]
      refine own_st (fun _ k => XS.iload X13.here hx rfl (hb hby at_122) rfl k) ?_
      show own_Go X13 (Q0 Z p0 p1 p2 p3 h0 n0) 1 4 124 #[.val (.int p0), .val (.int p1), .val (.int p2), .val (.int p3), .val (.int (3 : Int32)), .val (.int y0), .val (.int y1), .val (.int y2), .val (.int y3), .val (.ref b1), .val (.int bt), .val (.long (y0.toInt64)), .second, .unset, .unset] [(.int y1), (.long ((y0.toInt64) * (256 : Int64)))]
      refine own_st (fun _ k => XS.i2l X13.here hx rfl (hb hby at_124) rfl k) ?_
      show own_Go X13 (Q0 Z p0 p1 p2 p3 h0 n0) 1 4 125 #[.val (.int p0), .val (.int p1), .val (.int p2), .val (.int p3), .val (.int (3 : Int32)), .val (.int y0), .val (.int y1), .val (.int y2), .val (.int y3), .val (.ref b1), .val (.int bt), .val (.long (y0.toInt64)), .second, .unset, .unset] [(.long (y1.toInt64)), (.long ((y0.toInt64) * (256 : Int64)))]
      refine own_st (fun _ k => XS.ladd X13.here hx rfl (hb hby at_125) rfl k) ?_
      show own_Go X13 (Q0 Z p0 p1 p2 p3 h0 n0) 1 4 126 #[.val (.int p0), .val (.int p1), .val (.int p2), .val (.int p3), .val (.int (3 : Int32)), .val (.int y0), .val (.int y1), .val (.int y2), .val (.int y3), .val (.ref b1), .val (.int bt), .val (.long (y0.toInt64)), .second, .unset, .unset] [(.long (((y0.toInt64) * (256 : Int64)) + (y1.toInt64)))]
      refine own_st (fun _ k => XS.lstore X13.here hx rfl (hb hby at_126) rfl (l' := #[.val (.int p0), .val (.int p1), .val (.int p2), .val (.int p3), .val (.int (3 : Int32)), .val (.int y0), .val (.int y1), .val (.int y2), .val (.int y3), .val (.ref b1), .val (.int bt), .val (.long (((y0.toInt64) * (256 : Int64)) + (y1.toInt64))), .second, .unset, .unset]) rfl k) ?_
      show own_Go X13 (Q0 Z p0 p1 p2 p3 h0 n0) 1 4 128 #[.val (.int p0), .val (.int p1), .val (.int p2), .val (.int p3), .val (.int (3 : Int32)), .val (.int y0), .val (.int y1), .val (.int y2), .val (.int y3), .val (.ref b1), .val (.int bt), .val (.long (((y0.toInt64) * (256 : Int64)) + (y1.toInt64))), .second, .unset, .unset] []
      refine own_st (fun _ k => XS.iload X13.here hx rfl (hb hby at_128) rfl k) ?_
      show own_Go X13 (Q0 Z p0 p1 p2 p3 h0 n0) 1 4 130 #[.val (.int p0), .val (.int p1), .val (.int p2), .val (.int p3), .val (.int (3 : Int32)), .val (.int y0), .val (.int y1), .val (.int y2), .val (.int y3), .val (.ref b1), .val (.int bt), .val (.long (((y0.toInt64) * (256 : Int64)) + (y1.toInt64))), .second, .unset, .unset] [(.int (3 : Int32))]
      refine own_st (fun _ k => XS.iconst X13.here hx rfl (hb hby at_130) k) ?_
      show own_Go X13 (Q0 Z p0 p1 p2 p3 h0 n0) 1 4 131 #[.val (.int p0), .val (.int p1), .val (.int p2), .val (.int p3), .val (.int (3 : Int32)), .val (.int y0), .val (.int y1), .val (.int y2), .val (.int y3), .val (.ref b1), .val (.int bt), .val (.long (((y0.toInt64) * (256 : Int64)) + (y1.toInt64))), .second, .unset, .unset] [(.int (2 : Int32)), (.int (3 : Int32))]
      have c131_63 : (2 : Int32) < (3 : Int32) := (by decide)
      refine own_st (fun _ k => XS.icmpNo X13.here hx rfl (hb hby at_131) rfl (tlt c131_63).2.2.2 k) ?_
      show own_Go X13 (Q0 Z p0 p1 p2 p3 h0 n0) 1 4 134 #[.val (.int p0), .val (.int p1), .val (.int p2), .val (.int p3), .val (.int (3 : Int32)), .val (.int y0), .val (.int y1), .val (.int y2), .val (.int y3), .val (.ref b1), .val (.int bt), .val (.long (((y0.toInt64) * (256 : Int64)) + (y1.toInt64))), .second, .unset, .unset] []
      refine own_st (fun _ k => XS.lload X13.here hx rfl (hb hby at_134) rfl k) ?_
      show own_Go X13 (Q0 Z p0 p1 p2 p3 h0 n0) 1 4 136 #[.val (.int p0), .val (.int p1), .val (.int p2), .val (.int p3), .val (.int (3 : Int32)), .val (.int y0), .val (.int y1), .val (.int y2), .val (.int y3), .val (.ref b1), .val (.int bt), .val (.long (((y0.toInt64) * (256 : Int64)) + (y1.toInt64))), .second, .unset, .unset] [(.long (((y0.toInt64) * (256 : Int64)) + (y1.toInt64)))]
      refine own_st (fun t k => X13.ldc2Long hx hown (mvT hZ (hw _ (List.mem_of_getElem? (i := 2) rfl))) (g := (mkF m 136 #[.val (.int p0), .val (.int p1), .val (.int p2), .val (.int p3), .val (.int (3 : Int32)), .val (.int y0), .val (.int y1), .val (.int y2), .val (.int y3), .val (.ref b1), .val (.int bt), .val (.long (((y0.toInt64) * (256 : Int64)) + (y1.toInt64))), .second, .unset, .unset] [(.long (((y0.toInt64) * (256 : Int64)) + (y1.toInt64)))])) rfl (hb hby at_136) t k) ?_
      show own_Go X13 (Q0 Z p0 p1 p2 p3 h0 n0) 1 4 139 #[.val (.int p0), .val (.int p1), .val (.int p2), .val (.int p3), .val (.int (3 : Int32)), .val (.int y0), .val (.int y1), .val (.int y2), .val (.int y3), .val (.ref b1), .val (.int bt), .val (.long (((y0.toInt64) * (256 : Int64)) + (y1.toInt64))), .second, .unset, .unset] [(.long (256 : Int64)), (.long (((y0.toInt64) * (256 : Int64)) + (y1.toInt64)))]
      refine own_st (fun _ k => XS.lmul X13.here hx rfl (hb hby at_139) rfl k) ?_
      show own_Go X13 (Q0 Z p0 p1 p2 p3 h0 n0) 1 4 140 #[.val (.int p0), .val (.int p1), .val (.int p2), .val (.int p3), .val (.int (3 : Int32)), .val (.int y0), .val (.int y1), .val (.int y2), .val (.int y3), .val (.ref b1), .val (.int bt), .val (.long (((y0.toInt64) * (256 : Int64)) + (y1.toInt64))), .second, .unset, .unset] [(.long ((((y0.toInt64) * (256 : Int64)) + (y1.toInt64)) * (256 : Int64)))]
      refine own_st (fun _ k => XS.iload X13.here hx rfl (hb hby at_140) rfl k) ?_
      show own_Go X13 (Q0 Z p0 p1 p2 p3 h0 n0) 1 4 142 #[.val (.int p0), .val (.int p1), .val (.int p2), .val (.int p3), .val (.int (3 : Int32)), .val (.int y0), .val (.int y1), .val (.int y2), .val (.int y3), .val (.ref b1), .val (.int bt), .val (.long (((y0.toInt64) * (256 : Int64)) + (y1.toInt64))), .second, .unset, .unset] [(.int y2), (.long ((((y0.toInt64) * (256 : Int64)) + (y1.toInt64)) * (256 : Int64)))]
      refine own_st (fun _ k => XS.i2l X13.here hx rfl (hb hby at_142) rfl k) ?_
      show own_Go X13 (Q0 Z p0 p1 p2 p3 h0 n0) 1 4 143 #[.val (.int p0), .val (.int p1), .val (.int p2), .val (.int p3), .val (.int (3 : Int32)), .val (.int y0), .val (.int y1), .val (.int y2), .val (.int y3), .val (.ref b1), .val (.int bt), .val (.long (((y0.toInt64) * (256 : Int64)) + (y1.toInt64))), .second, .unset, .unset] [(.long (y2.toInt64)), (.long ((((y0.toInt64) * (256 : Int64)) + (y1.toInt64)) * (256 : Int64)))]
      refine own_st (fun _ k => XS.ladd X13.here hx rfl (hb hby at_143) rfl k) ?_
      show own_Go X13 (Q0 Z p0 p1 p2 p3 h0 n0) 1 4 144 #[.val (.int p0), .val (.int p1), .val (.int p2), .val (.int p3), .val (.int (3 : Int32)), .val (.int y0), .val (.int y1), .val (.int y2), .val (.int y3), .val (.ref b1), .val (.int bt), .val (.long (((y0.toInt64) * (256 : Int64)) + (y1.toInt64))), .second, .unset, .unset] [(.long (((((y0.toInt64) * (256 : Int64)) + (y1.toInt64)) * (256 : Int64)) + (y2.toInt64)))]
      refine own_st (fun _ k => XS.lstore X13.here hx rfl (hb hby at_144) rfl (l' := #[.val (.int p0), .val (.int p1), .val (.int p2), .val (.int p3), .val (.int (3 : Int32)), .val (.int y0), .val (.int y1), .val (.int y2), .val (.int y3), .val (.ref b1), .val (.int bt), .val (.long (((((y0.toInt64) * (256 : Int64)) + (y1.toInt64)) * (256 : Int64)) + (y2.toInt64))), .second, .unset, .unset]) rfl k) ?_
      show own_Go X13 (Q0 Z p0 p1 p2 p3 h0 n0) 1 4 146 #[.val (.int p0), .val (.int p1), .val (.int p2), .val (.int p3), .val (.int (3 : Int32)), .val (.int y0), .val (.int y1), .val (.int y2), .val (.int y3), .val (.ref b1), .val (.int bt), .val (.long (((((y0.toInt64) * (256 : Int64)) + (y1.toInt64)) * (256 : Int64)) + (y2.toInt64))), .second, .unset, .unset] []
      refine own_st (fun _ k => XS.iload X13.here hx rfl (hb hby at_146) rfl k) ?_
      show own_Go X13 (Q0 Z p0 p1 p2 p3 h0 n0) 1 4 148 #[.val (.int p0), .val (.int p1), .val (.int p2), .val (.int p3), .val (.int (3 : Int32)), .val (.int y0), .val (.int y1), .val (.int y2), .val (.int y3), .val (.ref b1), .val (.int bt), .val (.long (((((y0.toInt64) * (256 : Int64)) + (y1.toInt64)) * (256 : Int64)) + (y2.toInt64))), .second, .unset, .unset] [(.int (3 : Int32))]
      refine own_st (fun _ k => XS.iconst X13.here hx rfl (hb hby at_148) k) ?_
      show own_Go X13 (Q0 Z p0 p1 p2 p3 h0 n0) 1 4 149 #[.val (.int p0), .val (.int p1), .val (.int p2), .val (.int p3), .val (.int (3 : Int32)), .val (.int y0), .val (.int y1), .val (.int y2), .val (.int y3), .val (.ref b1), .val (.int bt), .val (.long (((((y0.toInt64) * (256 : Int64)) + (y1.toInt64)) * (256 : Int64)) + (y2.toInt64))), .second, .unset, .unset] [(.int (3 : Int32)), (.int (3 : Int32))]
      have c149_64 : ¬ ((3 : Int32) < (3 : Int32)) := (by decide)
      refine own_st (fun _ k => XS.icmpYes X13.here hx rfl (pc0 := 149) (pc' := 164) rfl (hb hby at_149) rfl (flt c149_64).2.2.2 (by decide) (by decide) k) ?_
      show own_Go X13 (Q0 Z p0 p1 p2 p3 h0 n0) 1 4 164 #[.val (.int p0), .val (.int p1), .val (.int p2), .val (.int p3), .val (.int (3 : Int32)), .val (.int y0), .val (.int y1), .val (.int y2), .val (.int y3), .val (.ref b1), .val (.int bt), .val (.long (((((y0.toInt64) * (256 : Int64)) + (y1.toInt64)) * (256 : Int64)) + (y2.toInt64))), .second, .unset, .unset] []
      generalize hvv : (((((y0.toInt64) * (256 : Int64)) + (y1.toInt64)) * (256 : Int64)) + (y2.toInt64)) = vv
      show own_Go X13 (Q0 Z p0 p1 p2 p3 h0 n0) 1 4 164 #[.val (.int p0), .val (.int p1), .val (.int p2), .val (.int p3), .val (.int (3 : Int32)), .val (.int y0), .val (.int y1), .val (.int y2), .val (.int y3), .val (.ref b1), .val (.int bt), .val (.long vv), .second, .unset, .unset] []
      have z0 := own_b255 hy0
      have z1 := own_b255 hy1
      have z2 := own_b255 hy2
      have z3 := own_b255 hy3
      have hvv' : vv.toInt = (y0.toInt * 256 + y1.toInt) * 256 + y2.toInt := by rw [← hvv]; exact (own_h (own_h (c_i2l y0) (by omega) (by omega) (own_b255 hy1)) (by omega) (by omega) (own_b255 hy2))
      refine own_st (fun _ k => XS.iload X13.here hx rfl (hb hby at_164) rfl k) ?_
      show own_Go X13 (Q0 Z p0 p1 p2 p3 h0 n0) 1 4 166 #[.val (.int p0), .val (.int p1), .val (.int p2), .val (.int p3), .val (.int (3 : Int32)), .val (.int y0), .val (.int y1), .val (.int y2), .val (.int y3), .val (.ref b1), .val (.int bt), .val (.long vv), .second, .unset, .unset] [(.int bt)]
      refine own_st (fun _ k => XS.bipush X13.here hx rfl (hb hby at_166) k) ?_
      show own_Go X13 (Q0 Z p0 p1 p2 p3 h0 n0) 1 4 168 #[.val (.int p0), .val (.int p1), .val (.int p2), .val (.int p3), .val (.int (3 : Int32)), .val (.int y0), .val (.int y1), .val (.int y2), .val (.int y3), .val (.ref b1), .val (.int bt), .val (.long vv), .second, .unset, .unset] [(.int (8 : Int32)), (.int bt)]
      refine own_st (fun _ k => XS.iload X13.here hx rfl (hb hby at_168) rfl k) ?_
      show own_Go X13 (Q0 Z p0 p1 p2 p3 h0 n0) 1 4 170 #[.val (.int p0), .val (.int p1), .val (.int p2), .val (.int p3), .val (.int (3 : Int32)), .val (.int y0), .val (.int y1), .val (.int y2), .val (.int y3), .val (.ref b1), .val (.int bt), .val (.long vv), .second, .unset, .unset] [(.int (3 : Int32)), (.int (8 : Int32)), (.int bt)]
      refine own_st (fun _ k => XS.imul X13.here hx rfl (hb hby at_170) rfl k) ?_
      show own_Go X13 (Q0 Z p0 p1 p2 p3 h0 n0) 1 4 171 #[.val (.int p0), .val (.int p1), .val (.int p2), .val (.int p3), .val (.int (3 : Int32)), .val (.int y0), .val (.int y1), .val (.int y2), .val (.int y3), .val (.ref b1), .val (.int bt), .val (.long vv), .second, .unset, .unset] [(.int (24 : Int32)), (.int bt)]
      by_cases c171_65 : bt < (24 : Int32)
      · skip
        refine own_st (fun _ k => XS.icmpNo X13.here hx rfl (hb hby at_171) rfl (tlt c171_65).2.1 k) ?_
        show own_Go X13 (Q0 Z p0 p1 p2 p3 h0 n0) 1 4 174 #[.val (.int p0), .val (.int p1), .val (.int p2), .val (.int p3), .val (.int (3 : Int32)), .val (.int y0), .val (.int y1), .val (.int y2), .val (.int y3), .val (.ref b1), .val (.int bt), .val (.long vv), .second, .unset, .unset] []
        refine own_st (fun _ k => XS.lload X13.here hx rfl (hb hby at_174) rfl k) ?_
        show own_Go X13 (Q0 Z p0 p1 p2 p3 h0 n0) 1 4 176 #[.val (.int p0), .val (.int p1), .val (.int p2), .val (.int p3), .val (.int (3 : Int32)), .val (.int y0), .val (.int y1), .val (.int y2), .val (.int y3), .val (.ref b1), .val (.int bt), .val (.long vv), .second, .unset, .unset] [(.long vv)]
        refine own_st (fun _ k => XS.iload X13.here hx rfl (hb hby at_176) rfl k) ?_
        show own_Go X13 (Q0 Z p0 p1 p2 p3 h0 n0) 1 4 178 #[.val (.int p0), .val (.int p1), .val (.int p2), .val (.int p3), .val (.int (3 : Int32)), .val (.int y0), .val (.int y1), .val (.int y2), .val (.int y3), .val (.ref b1), .val (.int bt), .val (.long vv), .second, .unset, .unset] [(.int bt), (.long vv)]
        refine own_st (fun _ k => XS.lushr X13.here hx rfl (hb hby at_178) rfl k) ?_
        show own_Go X13 (Q0 Z p0 p1 p2 p3 h0 n0) 1 4 179 #[.val (.int p0), .val (.int p1), .val (.int p2), .val (.int p3), .val (.int (3 : Int32)), .val (.int y0), .val (.int y1), .val (.int y2), .val (.int y3), .val (.ref b1), .val (.int bt), .val (.long vv), .second, .unset, .unset] [(.long ((vv.toUInt64 >>> (bt &&& 0x3f).toInt64.toUInt64).toInt64))]
        refine own_st (fun _ k => XS.lconst X13.here hx rfl (hb hby at_179) k) ?_
        show own_Go X13 (Q0 Z p0 p1 p2 p3 h0 n0) 1 4 180 #[.val (.int p0), .val (.int p1), .val (.int p2), .val (.int p3), .val (.int (3 : Int32)), .val (.int y0), .val (.int y1), .val (.int y2), .val (.int y3), .val (.ref b1), .val (.int bt), .val (.long vv), .second, .unset, .unset] [(.long (1 : Int64)), (.long ((vv.toUInt64 >>> (bt &&& 0x3f).toInt64.toUInt64).toInt64))]
        refine own_st (fun _ k => XS.land X13.here hx rfl (hb hby at_180) rfl k) ?_
        show own_Go X13 (Q0 Z p0 p1 p2 p3 h0 n0) 1 4 181 #[.val (.int p0), .val (.int p1), .val (.int p2), .val (.int p3), .val (.int (3 : Int32)), .val (.int y0), .val (.int y1), .val (.int y2), .val (.int y3), .val (.ref b1), .val (.int bt), .val (.long vv), .second, .unset, .unset] [(.long (((vv.toUInt64 >>> (bt &&& 0x3f).toInt64.toUInt64).toInt64) &&& (1 : Int64)))]
        refine own_st (fun _ k => XS.lconst X13.here hx rfl (hb hby at_181) k) ?_
        show own_Go X13 (Q0 Z p0 p1 p2 p3 h0 n0) 1 4 182 #[.val (.int p0), .val (.int p1), .val (.int p2), .val (.int p3), .val (.int (3 : Int32)), .val (.int y0), .val (.int y1), .val (.int y2), .val (.int y3), .val (.ref b1), .val (.int bt), .val (.long vv), .second, .unset, .unset] [(.long (1 : Int64)), (.long (((vv.toUInt64 >>> (bt &&& 0x3f).toInt64.toUInt64).toInt64) &&& (1 : Int64)))]
        refine own_st (fun _ k => XS.lcmp X13.here hx rfl (hb hby at_182) rfl k) ?_
        show own_Go X13 (Q0 Z p0 p1 p2 p3 h0 n0) 1 4 183 #[.val (.int p0), .val (.int p1), .val (.int p2), .val (.int p3), .val (.int (3 : Int32)), .val (.int y0), .val (.int y1), .val (.int y2), .val (.int y3), .val (.ref b1), .val (.int bt), .val (.long vv), .second, .unset, .unset] [(.int (lcmpW (((vv.toUInt64 >>> (bt &&& 0x3f).toInt64.toUInt64).toInt64) &&& (1 : Int64)) (1 : Int64)))]
        by_cases c183_66 : (((vv.toUInt64 >>> (bt &&& 0x3f).toInt64.toUInt64).toInt64) &&& (1 : Int64)) = (1 : Int64)
        · skip
          refine own_st (fun _ k => XS.ifNo X13.here hx rfl (hb hby at_183) rfl ((if0 _ _).trans (teq ((lw_eq _ _).mpr c183_66)).2) k) ?_
          show own_Go X13 (Q0 Z p0 p1 p2 p3 h0 n0) 1 4 186 #[.val (.int p0), .val (.int p1), .val (.int p2), .val (.int p3), .val (.int (3 : Int32)), .val (.int y0), .val (.int y1), .val (.int y2), .val (.int y3), .val (.ref b1), .val (.int bt), .val (.long vv), .second, .unset, .unset] []
          refine own_st (fun _ k => XS.iconst X13.here hx rfl (hb hby at_186) k) ?_
          show own_Go X13 (Q0 Z p0 p1 p2 p3 h0 n0) 1 4 187 #[.val (.int p0), .val (.int p1), .val (.int p2), .val (.int p3), .val (.int (3 : Int32)), .val (.int y0), .val (.int y1), .val (.int y2), .val (.int y3), .val (.ref b1), .val (.int bt), .val (.long vv), .second, .unset, .unset] [(.int (1 : Int32))]
          refine own_st (fun _ k => XS.goto X13.here hx rfl (pc0 := 187) (pc' := 191) rfl (hb hby at_187) (by decide) (by decide) k) ?_
          show own_Go X13 (Q0 Z p0 p1 p2 p3 h0 n0) 1 4 191 #[.val (.int p0), .val (.int p1), .val (.int p2), .val (.int p3), .val (.int (3 : Int32)), .val (.int y0), .val (.int y1), .val (.int y2), .val (.int y3), .val (.ref b1), .val (.int bt), .val (.long vv), .second, .unset, .unset] [(.int (1 : Int32))]
          refine own_st (fun _ k => XS.istore X13.here hx rfl (hb hby at_191) rfl (l' := #[.val (.int p0), .val (.int p1), .val (.int p2), .val (.int p3), .val (.int (3 : Int32)), .val (.int y0), .val (.int y1), .val (.int y2), .val (.int y3), .val (.ref b1), .val (.int bt), .val (.long vv), .second, .val (.int (1 : Int32)), .unset]) rfl k) ?_
          show own_Go X13 (Q0 Z p0 p1 p2 p3 h0 n0) 1 4 193 #[.val (.int p0), .val (.int p1), .val (.int p2), .val (.int p3), .val (.int (3 : Int32)), .val (.int y0), .val (.int y1), .val (.int y2), .val (.int y3), .val (.ref b1), .val (.int bt), .val (.long vv), .second, .val (.int (1 : Int32)), .unset] []
          refine own_st (fun _ k => XS.aload X13.here hx rfl (hb hby at_193) rfl rfl k) ?_
          show own_Go X13 (Q0 Z p0 p1 p2 p3 h0 n0) 1 4 195 #[.val (.int p0), .val (.int p1), .val (.int p2), .val (.int p3), .val (.int (3 : Int32)), .val (.int y0), .val (.int y1), .val (.int y2), .val (.int y3), .val (.ref b1), .val (.int bt), .val (.long vv), .second, .val (.int (1 : Int32)), .unset] [(.ref b1)]
          refine own_st (fun _ k => XS.iload X13.here hx rfl (hb hby at_195) rfl k) ?_
          show own_Go X13 (Q0 Z p0 p1 p2 p3 h0 n0) 1 4 197 #[.val (.int p0), .val (.int p1), .val (.int p2), .val (.int p3), .val (.int (3 : Int32)), .val (.int y0), .val (.int y1), .val (.int y2), .val (.int y3), .val (.ref b1), .val (.int bt), .val (.long vv), .second, .val (.int (1 : Int32)), .unset] [(.int (3 : Int32)), (.ref b1)]
          refine own_st (fun _ k => XS.iload X13.here hx rfl (hb hby at_197) rfl k) ?_
          show own_Go X13 (Q0 Z p0 p1 p2 p3 h0 n0) 1 4 199 #[.val (.int p0), .val (.int p1), .val (.int p2), .val (.int p3), .val (.int (3 : Int32)), .val (.int y0), .val (.int y1), .val (.int y2), .val (.int y3), .val (.ref b1), .val (.int bt), .val (.long vv), .second, .val (.int (1 : Int32)), .unset] [(.int bt), (.int (3 : Int32)), (.ref b1)]
          refine own_callS (W := 0) X13 hx hZ hown (hw _ (List.mem_of_getElem? (i := 3) rfl)) (hw _ (List.mem_of_getElem? (i := 4) rfl)) (hw _ (List.mem_of_getElem? (i := 5) rfl)) (hw _ (List.mem_of_getElem? (i := 6) rfl)) (by decide) (rm1 l Z a0 hw [] b1 (3 : Int32) bt k1 (y0.toInt8.toInt32).toInt8.toInt32 (y1.toInt8.toInt32).toInt8.toInt32 (y2.toInt8.toInt32).toInt8.toInt32 (y3.toInt8.toInt32).toInt8.toInt32 h13 n0 Z_14 U13 (own_ixb (k := (3 : Int32)) (kk := 3) (by decide) (by decide) (by decide) hbt)) (by decide) (by decide) (by rw [hml]; rfl) [(.ref b1), (.int (3 : Int32)), (.int bt)] [] (lenOf pd_0_0 rfl) rfl rfl (Nat.le_of_ble_eq_true rfl) (hb hby at_199) e13 (by decide) (by decide) ?_
          rintro _ T67 L67 X67 ⟨rfl, N67q, e67⟩
          have N_68 := Fr.app N_15 N67q
          show own_Go X67 (Q0 Z p0 p1 p2 p3 h0 n0) 1 4 202 #[.val (.int p0), .val (.int p1), .val (.int p2), .val (.int p3), .val (.int (3 : Int32)), .val (.int y0), .val (.int y1), .val (.int y2), .val (.int y3), .val (.ref b1), .val (.int bt), .val (.long vv), .second, .val (.int (1 : Int32)), .unset] [(.int (own_ib (y0.toInt8.toInt32).toInt8.toInt32 (y1.toInt8.toInt32).toInt8.toInt32 (y2.toInt8.toInt32).toInt8.toInt32 (y3.toInt8.toInt32).toInt8.toInt32 (3 : Int32) bt))]
          refine own_st (fun _ k => XS.istore X67.here hx rfl (hb hby at_202) rfl (l' := #[.val (.int p0), .val (.int p1), .val (.int p2), .val (.int p3), .val (.int (3 : Int32)), .val (.int y0), .val (.int y1), .val (.int y2), .val (.int y3), .val (.ref b1), .val (.int bt), .val (.long vv), .second, .val (.int (1 : Int32)), .val (.int (own_ib (y0.toInt8.toInt32).toInt8.toInt32 (y1.toInt8.toInt32).toInt8.toInt32 (y2.toInt8.toInt32).toInt8.toInt32 (y3.toInt8.toInt32).toInt8.toInt32 (3 : Int32) bt))]) rfl k) ?_
          show own_Go X67 (Q0 Z p0 p1 p2 p3 h0 n0) 1 4 204 #[.val (.int p0), .val (.int p1), .val (.int p2), .val (.int p3), .val (.int (3 : Int32)), .val (.int y0), .val (.int y1), .val (.int y2), .val (.int y3), .val (.ref b1), .val (.int bt), .val (.long vv), .second, .val (.int (1 : Int32)), .val (.int (own_ib (y0.toInt8.toInt32).toInt8.toInt32 (y1.toInt8.toInt32).toInt8.toInt32 (y2.toInt8.toInt32).toInt8.toInt32 (y3.toInt8.toInt32).toInt8.toInt32 (3 : Int32) bt))] []
          refine own_st (fun _ k => XS.iload X67.here hx rfl (hb hby at_204) rfl k) ?_
          show own_Go X67 (Q0 Z p0 p1 p2 p3 h0 n0) 1 4 206 #[.val (.int p0), .val (.int p1), .val (.int p2), .val (.int p3), .val (.int (3 : Int32)), .val (.int y0), .val (.int y1), .val (.int y2), .val (.int y3), .val (.ref b1), .val (.int bt), .val (.long vv), .second, .val (.int (1 : Int32)), .val (.int (own_ib (y0.toInt8.toInt32).toInt8.toInt32 (y1.toInt8.toInt32).toInt8.toInt32 (y2.toInt8.toInt32).toInt8.toInt32 (y3.toInt8.toInt32).toInt8.toInt32 (3 : Int32) bt))] [(.int (own_ib (y0.toInt8.toInt32).toInt8.toInt32 (y1.toInt8.toInt32).toInt8.toInt32 (y2.toInt8.toInt32).toInt8.toInt32 (y3.toInt8.toInt32).toInt8.toInt32 (3 : Int32) bt))]
          refine own_st (fun _ k => XS.iload X67.here hx rfl (hb hby at_206) rfl k) ?_
          show own_Go X67 (Q0 Z p0 p1 p2 p3 h0 n0) 1 4 208 #[.val (.int p0), .val (.int p1), .val (.int p2), .val (.int p3), .val (.int (3 : Int32)), .val (.int y0), .val (.int y1), .val (.int y2), .val (.int y3), .val (.ref b1), .val (.int bt), .val (.long vv), .second, .val (.int (1 : Int32)), .val (.int (own_ib (y0.toInt8.toInt32).toInt8.toInt32 (y1.toInt8.toInt32).toInt8.toInt32 (y2.toInt8.toInt32).toInt8.toInt32 (y3.toInt8.toInt32).toInt8.toInt32 (3 : Int32) bt))] [(.int (1 : Int32)), (.int (own_ib (y0.toInt8.toInt32).toInt8.toInt32 (y1.toInt8.toInt32).toInt8.toInt32 (y2.toInt8.toInt32).toInt8.toInt32 (y3.toInt8.toInt32).toInt8.toInt32 (3 : Int32) bt))]
          have c208_69 : (own_ib (y0.toInt8.toInt32).toInt8.toInt32 (y1.toInt8.toInt32).toInt8.toInt32 (y2.toInt8.toInt32).toInt8.toInt32 (y3.toInt8.toInt32).toInt8.toInt32 (3 : Int32) bt) = (1 : Int32) := by rw [own_m3 z0 z1 z2 hvv' hbt (own_ltN (B := 24) (by decide) c171_65), if_pos c183_66]
          refine own_st (fun _ k => XS.icmpNo X67.here hx rfl (hb hby at_208) rfl (teq c208_69).2 k) ?_
          show own_Go X67 (Q0 Z p0 p1 p2 p3 h0 n0) 1 4 211 #[.val (.int p0), .val (.int p1), .val (.int p2), .val (.int p3), .val (.int (3 : Int32)), .val (.int y0), .val (.int y1), .val (.int y2), .val (.int y3), .val (.ref b1), .val (.int bt), .val (.long vv), .second, .val (.int (1 : Int32)), .val (.int (own_ib (y0.toInt8.toInt32).toInt8.toInt32 (y1.toInt8.toInt32).toInt8.toInt32 (y2.toInt8.toInt32).toInt8.toInt32 (y3.toInt8.toInt32).toInt8.toInt32 (3 : Int32) bt))] []
          refine own_st (fun _ k => XS.iconst X67.here hx rfl (hb hby at_211) k) ?_
          show own_Go X67 (Q0 Z p0 p1 p2 p3 h0 n0) 1 4 212 #[.val (.int p0), .val (.int p1), .val (.int p2), .val (.int p3), .val (.int (3 : Int32)), .val (.int y0), .val (.int y1), .val (.int y2), .val (.int y3), .val (.ref b1), .val (.int bt), .val (.long vv), .second, .val (.int (1 : Int32)), .val (.int (own_ib (y0.toInt8.toInt32).toInt8.toInt32 (y1.toInt8.toInt32).toInt8.toInt32 (y2.toInt8.toInt32).toInt8.toInt32 (y3.toInt8.toInt32).toInt8.toInt32 (3 : Int32) bt))] [(.int (1 : Int32))]
          refine own_st (fun _ k => XS.goto X67.here hx rfl (pc0 := 212) (pc' := 216) rfl (hb hby at_212) (by decide) (by decide) k) ?_
          show own_Go X67 (Q0 Z p0 p1 p2 p3 h0 n0) 1 4 216 #[.val (.int p0), .val (.int p1), .val (.int p2), .val (.int p3), .val (.int (3 : Int32)), .val (.int y0), .val (.int y1), .val (.int y2), .val (.int y3), .val (.ref b1), .val (.int bt), .val (.long vv), .second, .val (.int (1 : Int32)), .val (.int (own_ib (y0.toInt8.toInt32).toInt8.toInt32 (y1.toInt8.toInt32).toInt8.toInt32 (y2.toInt8.toInt32).toInt8.toInt32 (y3.toInt8.toInt32).toInt8.toInt32 (3 : Int32) bt))] [(.int (1 : Int32))]
          refine own_retN X67 hx Bd.returns (by simp) hlk e67 (hb hby at_216) (by decide) (by decide) ?_
          exact ⟨rfl, N_68⟩
        · skip
          refine own_st (fun _ k => XS.ifYes X13.here hx rfl (pc0 := 183) (pc' := 190) rfl (hb hby at_183) rfl ((if0 _ _).trans (feq (fun q => c183_66 ((lw_eq _ _).mp q))).2) (by decide) (by decide) k) ?_
          show own_Go X13 (Q0 Z p0 p1 p2 p3 h0 n0) 1 4 190 #[.val (.int p0), .val (.int p1), .val (.int p2), .val (.int p3), .val (.int (3 : Int32)), .val (.int y0), .val (.int y1), .val (.int y2), .val (.int y3), .val (.ref b1), .val (.int bt), .val (.long vv), .second, .unset, .unset] []
          refine own_st (fun _ k => XS.iconst X13.here hx rfl (hb hby at_190) k) ?_
          show own_Go X13 (Q0 Z p0 p1 p2 p3 h0 n0) 1 4 191 #[.val (.int p0), .val (.int p1), .val (.int p2), .val (.int p3), .val (.int (3 : Int32)), .val (.int y0), .val (.int y1), .val (.int y2), .val (.int y3), .val (.ref b1), .val (.int bt), .val (.long vv), .second, .unset, .unset] [(.int (0 : Int32))]
          refine own_st (fun _ k => XS.istore X13.here hx rfl (hb hby at_191) rfl (l' := #[.val (.int p0), .val (.int p1), .val (.int p2), .val (.int p3), .val (.int (3 : Int32)), .val (.int y0), .val (.int y1), .val (.int y2), .val (.int y3), .val (.ref b1), .val (.int bt), .val (.long vv), .second, .val (.int (0 : Int32)), .unset]) rfl k) ?_
          show own_Go X13 (Q0 Z p0 p1 p2 p3 h0 n0) 1 4 193 #[.val (.int p0), .val (.int p1), .val (.int p2), .val (.int p3), .val (.int (3 : Int32)), .val (.int y0), .val (.int y1), .val (.int y2), .val (.int y3), .val (.ref b1), .val (.int bt), .val (.long vv), .second, .val (.int (0 : Int32)), .unset] []
          refine own_st (fun _ k => XS.aload X13.here hx rfl (hb hby at_193) rfl rfl k) ?_
          show own_Go X13 (Q0 Z p0 p1 p2 p3 h0 n0) 1 4 195 #[.val (.int p0), .val (.int p1), .val (.int p2), .val (.int p3), .val (.int (3 : Int32)), .val (.int y0), .val (.int y1), .val (.int y2), .val (.int y3), .val (.ref b1), .val (.int bt), .val (.long vv), .second, .val (.int (0 : Int32)), .unset] [(.ref b1)]
          refine own_st (fun _ k => XS.iload X13.here hx rfl (hb hby at_195) rfl k) ?_
          show own_Go X13 (Q0 Z p0 p1 p2 p3 h0 n0) 1 4 197 #[.val (.int p0), .val (.int p1), .val (.int p2), .val (.int p3), .val (.int (3 : Int32)), .val (.int y0), .val (.int y1), .val (.int y2), .val (.int y3), .val (.ref b1), .val (.int bt), .val (.long vv), .second, .val (.int (0 : Int32)), .unset] [(.int (3 : Int32)), (.ref b1)]
          refine own_st (fun _ k => XS.iload X13.here hx rfl (hb hby at_197) rfl k) ?_
          show own_Go X13 (Q0 Z p0 p1 p2 p3 h0 n0) 1 4 199 #[.val (.int p0), .val (.int p1), .val (.int p2), .val (.int p3), .val (.int (3 : Int32)), .val (.int y0), .val (.int y1), .val (.int y2), .val (.int y3), .val (.ref b1), .val (.int bt), .val (.long vv), .second, .val (.int (0 : Int32)), .unset] [(.int bt), (.int (3 : Int32)), (.ref b1)]
          refine own_callS (W := 0) X13 hx hZ hown (hw _ (List.mem_of_getElem? (i := 3) rfl)) (hw _ (List.mem_of_getElem? (i := 4) rfl)) (hw _ (List.mem_of_getElem? (i := 5) rfl)) (hw _ (List.mem_of_getElem? (i := 6) rfl)) (by decide) (rm1 l Z a0 hw [] b1 (3 : Int32) bt k1 (y0.toInt8.toInt32).toInt8.toInt32 (y1.toInt8.toInt32).toInt8.toInt32 (y2.toInt8.toInt32).toInt8.toInt32 (y3.toInt8.toInt32).toInt8.toInt32 h13 n0 Z_14 U13 (own_ixb (k := (3 : Int32)) (kk := 3) (by decide) (by decide) (by decide) hbt)) (by decide) (by decide) (by rw [hml]; rfl) [(.ref b1), (.int (3 : Int32)), (.int bt)] [] (lenOf pd_0_0 rfl) rfl rfl (Nat.le_of_ble_eq_true rfl) (hb hby at_199) e13 (by decide) (by decide) ?_
          rintro _ T70 L70 X70 ⟨rfl, N70q, e70⟩
          have N_71 := Fr.app N_15 N70q
          show own_Go X70 (Q0 Z p0 p1 p2 p3 h0 n0) 1 4 202 #[.val (.int p0), .val (.int p1), .val (.int p2), .val (.int p3), .val (.int (3 : Int32)), .val (.int y0), .val (.int y1), .val (.int y2), .val (.int y3), .val (.ref b1), .val (.int bt), .val (.long vv), .second, .val (.int (0 : Int32)), .unset] [(.int (own_ib (y0.toInt8.toInt32).toInt8.toInt32 (y1.toInt8.toInt32).toInt8.toInt32 (y2.toInt8.toInt32).toInt8.toInt32 (y3.toInt8.toInt32).toInt8.toInt32 (3 : Int32) bt))]
          refine own_st (fun _ k => XS.istore X70.here hx rfl (hb hby at_202) rfl (l' := #[.val (.int p0), .val (.int p1), .val (.int p2), .val (.int p3), .val (.int (3 : Int32)), .val (.int y0), .val (.int y1), .val (.int y2), .val (.int y3), .val (.ref b1), .val (.int bt), .val (.long vv), .second, .val (.int (0 : Int32)), .val (.int (own_ib (y0.toInt8.toInt32).toInt8.toInt32 (y1.toInt8.toInt32).toInt8.toInt32 (y2.toInt8.toInt32).toInt8.toInt32 (y3.toInt8.toInt32).toInt8.toInt32 (3 : Int32) bt))]) rfl k) ?_
          show own_Go X70 (Q0 Z p0 p1 p2 p3 h0 n0) 1 4 204 #[.val (.int p0), .val (.int p1), .val (.int p2), .val (.int p3), .val (.int (3 : Int32)), .val (.int y0), .val (.int y1), .val (.int y2), .val (.int y3), .val (.ref b1), .val (.int bt), .val (.long vv), .second, .val (.int (0 : Int32)), .val (.int (own_ib (y0.toInt8.toInt32).toInt8.toInt32 (y1.toInt8.toInt32).toInt8.toInt32 (y2.toInt8.toInt32).toInt8.toInt32 (y3.toInt8.toInt32).toInt8.toInt32 (3 : Int32) bt))] []
          refine own_st (fun _ k => XS.iload X70.here hx rfl (hb hby at_204) rfl k) ?_
          show own_Go X70 (Q0 Z p0 p1 p2 p3 h0 n0) 1 4 206 #[.val (.int p0), .val (.int p1), .val (.int p2), .val (.int p3), .val (.int (3 : Int32)), .val (.int y0), .val (.int y1), .val (.int y2), .val (.int y3), .val (.ref b1), .val (.int bt), .val (.long vv), .second, .val (.int (0 : Int32)), .val (.int (own_ib (y0.toInt8.toInt32).toInt8.toInt32 (y1.toInt8.toInt32).toInt8.toInt32 (y2.toInt8.toInt32).toInt8.toInt32 (y3.toInt8.toInt32).toInt8.toInt32 (3 : Int32) bt))] [(.int (own_ib (y0.toInt8.toInt32).toInt8.toInt32 (y1.toInt8.toInt32).toInt8.toInt32 (y2.toInt8.toInt32).toInt8.toInt32 (y3.toInt8.toInt32).toInt8.toInt32 (3 : Int32) bt))]
          refine own_st (fun _ k => XS.iload X70.here hx rfl (hb hby at_206) rfl k) ?_
          show own_Go X70 (Q0 Z p0 p1 p2 p3 h0 n0) 1 4 208 #[.val (.int p0), .val (.int p1), .val (.int p2), .val (.int p3), .val (.int (3 : Int32)), .val (.int y0), .val (.int y1), .val (.int y2), .val (.int y3), .val (.ref b1), .val (.int bt), .val (.long vv), .second, .val (.int (0 : Int32)), .val (.int (own_ib (y0.toInt8.toInt32).toInt8.toInt32 (y1.toInt8.toInt32).toInt8.toInt32 (y2.toInt8.toInt32).toInt8.toInt32 (y3.toInt8.toInt32).toInt8.toInt32 (3 : Int32) bt))] [(.int (0 : Int32)), (.int (own_ib (y0.toInt8.toInt32).toInt8.toInt32 (y1.toInt8.toInt32).toInt8.toInt32 (y2.toInt8.toInt32).toInt8.toInt32 (y3.toInt8.toInt32).toInt8.toInt32 (3 : Int32) bt))]
          have c208_72 : (own_ib (y0.toInt8.toInt32).toInt8.toInt32 (y1.toInt8.toInt32).toInt8.toInt32 (y2.toInt8.toInt32).toInt8.toInt32 (y3.toInt8.toInt32).toInt8.toInt32 (3 : Int32) bt) = (0 : Int32) := by rw [own_m3 z0 z1 z2 hvv' hbt (own_ltN (B := 24) (by decide) c171_65), if_neg c183_66]
          refine own_st (fun _ k => XS.icmpNo X70.here hx rfl (hb hby at_208) rfl (teq c208_72).2 k) ?_
          show own_Go X70 (Q0 Z p0 p1 p2 p3 h0 n0) 1 4 211 #[.val (.int p0), .val (.int p1), .val (.int p2), .val (.int p3), .val (.int (3 : Int32)), .val (.int y0), .val (.int y1), .val (.int y2), .val (.int y3), .val (.ref b1), .val (.int bt), .val (.long vv), .second, .val (.int (0 : Int32)), .val (.int (own_ib (y0.toInt8.toInt32).toInt8.toInt32 (y1.toInt8.toInt32).toInt8.toInt32 (y2.toInt8.toInt32).toInt8.toInt32 (y3.toInt8.toInt32).toInt8.toInt32 (3 : Int32) bt))] []
          refine own_st (fun _ k => XS.iconst X70.here hx rfl (hb hby at_211) k) ?_
          show own_Go X70 (Q0 Z p0 p1 p2 p3 h0 n0) 1 4 212 #[.val (.int p0), .val (.int p1), .val (.int p2), .val (.int p3), .val (.int (3 : Int32)), .val (.int y0), .val (.int y1), .val (.int y2), .val (.int y3), .val (.ref b1), .val (.int bt), .val (.long vv), .second, .val (.int (0 : Int32)), .val (.int (own_ib (y0.toInt8.toInt32).toInt8.toInt32 (y1.toInt8.toInt32).toInt8.toInt32 (y2.toInt8.toInt32).toInt8.toInt32 (y3.toInt8.toInt32).toInt8.toInt32 (3 : Int32) bt))] [(.int (1 : Int32))]
          refine own_st (fun _ k => XS.goto X70.here hx rfl (pc0 := 212) (pc' := 216) rfl (hb hby at_212) (by decide) (by decide) k) ?_
          show own_Go X70 (Q0 Z p0 p1 p2 p3 h0 n0) 1 4 216 #[.val (.int p0), .val (.int p1), .val (.int p2), .val (.int p3), .val (.int (3 : Int32)), .val (.int y0), .val (.int y1), .val (.int y2), .val (.int y3), .val (.ref b1), .val (.int bt), .val (.long vv), .second, .val (.int (0 : Int32)), .val (.int (own_ib (y0.toInt8.toInt32).toInt8.toInt32 (y1.toInt8.toInt32).toInt8.toInt32 (y2.toInt8.toInt32).toInt8.toInt32 (y3.toInt8.toInt32).toInt8.toInt32 (3 : Int32) bt))] [(.int (1 : Int32))]
          refine own_retN X70 hx Bd.returns (by simp) hlk e70 (hb hby at_216) (by decide) (by decide) ?_
          exact ⟨rfl, N_71⟩
      · skip
        refine own_st (fun _ k => XS.icmpYes X13.here hx rfl (pc0 := 171) (pc' := 190) rfl (hb hby at_171) rfl (flt c171_65).2.1 (by decide) (by decide) k) ?_
        show own_Go X13 (Q0 Z p0 p1 p2 p3 h0 n0) 1 4 190 #[.val (.int p0), .val (.int p1), .val (.int p2), .val (.int p3), .val (.int (3 : Int32)), .val (.int y0), .val (.int y1), .val (.int y2), .val (.int y3), .val (.ref b1), .val (.int bt), .val (.long vv), .second, .unset, .unset] []
        refine own_st (fun _ k => XS.iconst X13.here hx rfl (hb hby at_190) k) ?_
        show own_Go X13 (Q0 Z p0 p1 p2 p3 h0 n0) 1 4 191 #[.val (.int p0), .val (.int p1), .val (.int p2), .val (.int p3), .val (.int (3 : Int32)), .val (.int y0), .val (.int y1), .val (.int y2), .val (.int y3), .val (.ref b1), .val (.int bt), .val (.long vv), .second, .unset, .unset] [(.int (0 : Int32))]
        refine own_st (fun _ k => XS.istore X13.here hx rfl (hb hby at_191) rfl (l' := #[.val (.int p0), .val (.int p1), .val (.int p2), .val (.int p3), .val (.int (3 : Int32)), .val (.int y0), .val (.int y1), .val (.int y2), .val (.int y3), .val (.ref b1), .val (.int bt), .val (.long vv), .second, .val (.int (0 : Int32)), .unset]) rfl k) ?_
        show own_Go X13 (Q0 Z p0 p1 p2 p3 h0 n0) 1 4 193 #[.val (.int p0), .val (.int p1), .val (.int p2), .val (.int p3), .val (.int (3 : Int32)), .val (.int y0), .val (.int y1), .val (.int y2), .val (.int y3), .val (.ref b1), .val (.int bt), .val (.long vv), .second, .val (.int (0 : Int32)), .unset] []
        refine own_st (fun _ k => XS.aload X13.here hx rfl (hb hby at_193) rfl rfl k) ?_
        show own_Go X13 (Q0 Z p0 p1 p2 p3 h0 n0) 1 4 195 #[.val (.int p0), .val (.int p1), .val (.int p2), .val (.int p3), .val (.int (3 : Int32)), .val (.int y0), .val (.int y1), .val (.int y2), .val (.int y3), .val (.ref b1), .val (.int bt), .val (.long vv), .second, .val (.int (0 : Int32)), .unset] [(.ref b1)]
        refine own_st (fun _ k => XS.iload X13.here hx rfl (hb hby at_195) rfl k) ?_
        show own_Go X13 (Q0 Z p0 p1 p2 p3 h0 n0) 1 4 197 #[.val (.int p0), .val (.int p1), .val (.int p2), .val (.int p3), .val (.int (3 : Int32)), .val (.int y0), .val (.int y1), .val (.int y2), .val (.int y3), .val (.ref b1), .val (.int bt), .val (.long vv), .second, .val (.int (0 : Int32)), .unset] [(.int (3 : Int32)), (.ref b1)]
        refine own_st (fun _ k => XS.iload X13.here hx rfl (hb hby at_197) rfl k) ?_
        show own_Go X13 (Q0 Z p0 p1 p2 p3 h0 n0) 1 4 199 #[.val (.int p0), .val (.int p1), .val (.int p2), .val (.int p3), .val (.int (3 : Int32)), .val (.int y0), .val (.int y1), .val (.int y2), .val (.int y3), .val (.ref b1), .val (.int bt), .val (.long vv), .second, .val (.int (0 : Int32)), .unset] [(.int bt), (.int (3 : Int32)), (.ref b1)]
        refine own_callS (W := 0) X13 hx hZ hown (hw _ (List.mem_of_getElem? (i := 3) rfl)) (hw _ (List.mem_of_getElem? (i := 4) rfl)) (hw _ (List.mem_of_getElem? (i := 5) rfl)) (hw _ (List.mem_of_getElem? (i := 6) rfl)) (by decide) (rm1 l Z a0 hw [] b1 (3 : Int32) bt k1 (y0.toInt8.toInt32).toInt8.toInt32 (y1.toInt8.toInt32).toInt8.toInt32 (y2.toInt8.toInt32).toInt8.toInt32 (y3.toInt8.toInt32).toInt8.toInt32 h13 n0 Z_14 U13 (own_ixb (k := (3 : Int32)) (kk := 3) (by decide) (by decide) (by decide) hbt)) (by decide) (by decide) (by rw [hml]; rfl) [(.ref b1), (.int (3 : Int32)), (.int bt)] [] (lenOf pd_0_0 rfl) rfl rfl (Nat.le_of_ble_eq_true rfl) (hb hby at_199) e13 (by decide) (by decide) ?_
        rintro _ T73 L73 X73 ⟨rfl, N73q, e73⟩
        have N_74 := Fr.app N_15 N73q
        show own_Go X73 (Q0 Z p0 p1 p2 p3 h0 n0) 1 4 202 #[.val (.int p0), .val (.int p1), .val (.int p2), .val (.int p3), .val (.int (3 : Int32)), .val (.int y0), .val (.int y1), .val (.int y2), .val (.int y3), .val (.ref b1), .val (.int bt), .val (.long vv), .second, .val (.int (0 : Int32)), .unset] [(.int (own_ib (y0.toInt8.toInt32).toInt8.toInt32 (y1.toInt8.toInt32).toInt8.toInt32 (y2.toInt8.toInt32).toInt8.toInt32 (y3.toInt8.toInt32).toInt8.toInt32 (3 : Int32) bt))]
        refine own_st (fun _ k => XS.istore X73.here hx rfl (hb hby at_202) rfl (l' := #[.val (.int p0), .val (.int p1), .val (.int p2), .val (.int p3), .val (.int (3 : Int32)), .val (.int y0), .val (.int y1), .val (.int y2), .val (.int y3), .val (.ref b1), .val (.int bt), .val (.long vv), .second, .val (.int (0 : Int32)), .val (.int (own_ib (y0.toInt8.toInt32).toInt8.toInt32 (y1.toInt8.toInt32).toInt8.toInt32 (y2.toInt8.toInt32).toInt8.toInt32 (y3.toInt8.toInt32).toInt8.toInt32 (3 : Int32) bt))]) rfl k) ?_
        show own_Go X73 (Q0 Z p0 p1 p2 p3 h0 n0) 1 4 204 #[.val (.int p0), .val (.int p1), .val (.int p2), .val (.int p3), .val (.int (3 : Int32)), .val (.int y0), .val (.int y1), .val (.int y2), .val (.int y3), .val (.ref b1), .val (.int bt), .val (.long vv), .second, .val (.int (0 : Int32)), .val (.int (own_ib (y0.toInt8.toInt32).toInt8.toInt32 (y1.toInt8.toInt32).toInt8.toInt32 (y2.toInt8.toInt32).toInt8.toInt32 (y3.toInt8.toInt32).toInt8.toInt32 (3 : Int32) bt))] []
        refine own_st (fun _ k => XS.iload X73.here hx rfl (hb hby at_204) rfl k) ?_
        show own_Go X73 (Q0 Z p0 p1 p2 p3 h0 n0) 1 4 206 #[.val (.int p0), .val (.int p1), .val (.int p2), .val (.int p3), .val (.int (3 : Int32)), .val (.int y0), .val (.int y1), .val (.int y2), .val (.int y3), .val (.ref b1), .val (.int bt), .val (.long vv), .second, .val (.int (0 : Int32)), .val (.int (own_ib (y0.toInt8.toInt32).toInt8.toInt32 (y1.toInt8.toInt32).toInt8.toInt32 (y2.toInt8.toInt32).toInt8.toInt32 (y3.toInt8.toInt32).toInt8.toInt32 (3 : Int32) bt))] [(.int (own_ib (y0.toInt8.toInt32).toInt8.toInt32 (y1.toInt8.toInt32).toInt8.toInt32 (y2.toInt8.toInt32).toInt8.toInt32 (y3.toInt8.toInt32).toInt8.toInt32 (3 : Int32) bt))]
        refine own_st (fun _ k => XS.iload X73.here hx rfl (hb hby at_206) rfl k) ?_
        show own_Go X73 (Q0 Z p0 p1 p2 p3 h0 n0) 1 4 208 #[.val (.int p0), .val (.int p1), .val (.int p2), .val (.int p3), .val (.int (3 : Int32)), .val (.int y0), .val (.int y1), .val (.int y2), .val (.int y3), .val (.ref b1), .val (.int bt), .val (.long vv), .second, .val (.int (0 : Int32)), .val (.int (own_ib (y0.toInt8.toInt32).toInt8.toInt32 (y1.toInt8.toInt32).toInt8.toInt32 (y2.toInt8.toInt32).toInt8.toInt32 (y3.toInt8.toInt32).toInt8.toInt32 (3 : Int32) bt))] [(.int (0 : Int32)), (.int (own_ib (y0.toInt8.toInt32).toInt8.toInt32 (y1.toInt8.toInt32).toInt8.toInt32 (y2.toInt8.toInt32).toInt8.toInt32 (y3.toInt8.toInt32).toInt8.toInt32 (3 : Int32) bt))]
        have c208_75 : (own_ib (y0.toInt8.toInt32).toInt8.toInt32 (y1.toInt8.toInt32).toInt8.toInt32 (y2.toInt8.toInt32).toInt8.toInt32 (y3.toInt8.toInt32).toInt8.toInt32 (3 : Int32) bt) = (0 : Int32) := own_out (kk := 3) (by decide) (by decide) (by decide) hbt (by have := own_geN (B := 24) (by decide) c171_65; omega)
        refine own_st (fun _ k => XS.icmpNo X73.here hx rfl (hb hby at_208) rfl (teq c208_75).2 k) ?_
        show own_Go X73 (Q0 Z p0 p1 p2 p3 h0 n0) 1 4 211 #[.val (.int p0), .val (.int p1), .val (.int p2), .val (.int p3), .val (.int (3 : Int32)), .val (.int y0), .val (.int y1), .val (.int y2), .val (.int y3), .val (.ref b1), .val (.int bt), .val (.long vv), .second, .val (.int (0 : Int32)), .val (.int (own_ib (y0.toInt8.toInt32).toInt8.toInt32 (y1.toInt8.toInt32).toInt8.toInt32 (y2.toInt8.toInt32).toInt8.toInt32 (y3.toInt8.toInt32).toInt8.toInt32 (3 : Int32) bt))] []
        refine own_st (fun _ k => XS.iconst X73.here hx rfl (hb hby at_211) k) ?_
        show own_Go X73 (Q0 Z p0 p1 p2 p3 h0 n0) 1 4 212 #[.val (.int p0), .val (.int p1), .val (.int p2), .val (.int p3), .val (.int (3 : Int32)), .val (.int y0), .val (.int y1), .val (.int y2), .val (.int y3), .val (.ref b1), .val (.int bt), .val (.long vv), .second, .val (.int (0 : Int32)), .val (.int (own_ib (y0.toInt8.toInt32).toInt8.toInt32 (y1.toInt8.toInt32).toInt8.toInt32 (y2.toInt8.toInt32).toInt8.toInt32 (y3.toInt8.toInt32).toInt8.toInt32 (3 : Int32) bt))] [(.int (1 : Int32))]
        refine own_st (fun _ k => XS.goto X73.here hx rfl (pc0 := 212) (pc' := 216) rfl (hb hby at_212) (by decide) (by decide) k) ?_
        show own_Go X73 (Q0 Z p0 p1 p2 p3 h0 n0) 1 4 216 #[.val (.int p0), .val (.int p1), .val (.int p2), .val (.int p3), .val (.int (3 : Int32)), .val (.int y0), .val (.int y1), .val (.int y2), .val (.int y3), .val (.ref b1), .val (.int bt), .val (.long vv), .second, .val (.int (0 : Int32)), .val (.int (own_ib (y0.toInt8.toInt32).toInt8.toInt32 (y1.toInt8.toInt32).toInt8.toInt32 (y2.toInt8.toInt32).toInt8.toInt32 (y3.toInt8.toInt32).toInt8.toInt32 (3 : Int32) bt))] [(.int (1 : Int32))]
        refine own_retN X73 hx Bd.returns (by simp) hlk e73 (hb hby at_216) (by decide) (by decide) ?_
        exact ⟨rfl, N_74⟩
    · skip
      show own_Go X13 (Q0 Z p0 p1 p2 p3 h0 n0) 1 4 100 #[.val (.int p0), .val (.int p1), .val (.int p2), .val (.int p3), .val (.int (4 : Int32)), .val (.int y0), .val (.int y1), .val (.int y2), .val (.int y3), .val (.ref b1), .val (.int bt), .val (.long (0 : Int64)), .second, .unset, .unset] []
      refine own_st (fun _ k => XS.iload X13.here hx rfl (hb hby at_100) rfl k) ?_
      show own_Go X13 (Q0 Z p0 p1 p2 p3 h0 n0) 1 4 102 #[.val (.int p0), .val (.int p1), .val (.int p2), .val (.int p3), .val (.int (4 : Int32)), .val (.int y0), .val (.int y1), .val (.int y2), .val (.int y3), .val (.ref b1), .val (.int bt), .val (.long (0 : Int64)), .second, .unset, .unset] [(.int (4 : Int32))]
      have c102_76 : (0 : Int32) < (4 : Int32) := (by decide)
      refine own_st (fun _ k => XS.ifNo X13.here hx rfl (hb hby at_102) rfl ((if0 _ _).trans (tlt c102_76).2.2.2) k) ?_
      show own_Go X13 (Q0 Z p0 p1 p2 p3 h0 n0) 1 4 105 #[.val (.int p0), .val (.int p1), .val (.int p2), .val (.int p3), .val (.int (4 : Int32)), .val (.int y0), .val (.int y1), .val (.int y2), .val (.int y3), .val (.ref b1), .val (.int bt), .val (.long (0 : Int64)), .second, .unset, .unset] []
      refine own_st (fun _ k => XS.iload X13.here hx rfl (hb hby at_105) rfl k) ?_
      show own_Go X13 (Q0 Z p0 p1 p2 p3 h0 n0) 1 4 107 #[.val (.int p0), .val (.int p1), .val (.int p2), .val (.int p3), .val (.int (4 : Int32)), .val (.int y0), .val (.int y1), .val (.int y2), .val (.int y3), .val (.ref b1), .val (.int bt), .val (.long (0 : Int64)), .second, .unset, .unset] [(.int y0)]
      refine own_st (fun _ k => XS.i2l X13.here hx rfl (hb hby at_107) rfl k) ?_
      show own_Go X13 (Q0 Z p0 p1 p2 p3 h0 n0) 1 4 108 #[.val (.int p0), .val (.int p1), .val (.int p2), .val (.int p3), .val (.int (4 : Int32)), .val (.int y0), .val (.int y1), .val (.int y2), .val (.int y3), .val (.ref b1), .val (.int bt), .val (.long (0 : Int64)), .second, .unset, .unset] [(.long (y0.toInt64))]
      refine own_st (fun _ k => XS.lstore X13.here hx rfl (hb hby at_108) rfl (l' := #[.val (.int p0), .val (.int p1), .val (.int p2), .val (.int p3), .val (.int (4 : Int32)), .val (.int y0), .val (.int y1), .val (.int y2), .val (.int y3), .val (.ref b1), .val (.int bt), .val (.long (y0.toInt64)), .second, .unset, .unset]) rfl k) ?_
      show own_Go X13 (Q0 Z p0 p1 p2 p3 h0 n0) 1 4 110 #[.val (.int p0), .val (.int p1), .val (.int p2), .val (.int p3), .val (.int (4 : Int32)), .val (.int y0), .val (.int y1), .val (.int y2), .val (.int y3), .val (.ref b1), .val (.int bt), .val (.long (y0.toInt64)), .second, .unset, .unset] []
      refine own_st (fun _ k => XS.iload X13.here hx rfl (hb hby at_110) rfl k) ?_
      show own_Go X13 (Q0 Z p0 p1 p2 p3 h0 n0) 1 4 112 #[.val (.int p0), .val (.int p1), .val (.int p2), .val (.int p3), .val (.int (4 : Int32)), .val (.int y0), .val (.int y1), .val (.int y2), .val (.int y3), .val (.ref b1), .val (.int bt), .val (.long (y0.toInt64)), .second, .unset, .unset] [(.int (4 : Int32))]
      refine own_st (fun _ k => XS.iconst X13.here hx rfl (hb hby at_112) k) ?_
      show own_Go X13 (Q0 Z p0 p1 p2 p3 h0 n0) 1 4 113 #[.val (.int p0), .val (.int p1), .val (.int p2), .val (.int p3), .val (.int (4 : Int32)), .val (.int y0), .val (.int y1), .val (.int y2), .val (.int y3), .val (.ref b1), .val (.int bt), .val (.long (y0.toInt64)), .second, .unset, .unset] [(.int (1 : Int32)), (.int (4 : Int32))]
      have c113_77 : (1 : Int32) < (4 : Int32) := (by decide)
      refine own_st (fun _ k => XS.icmpNo X13.here hx rfl (hb hby at_113) rfl (tlt c113_77).2.2.2 k) ?_
      show own_Go X13 (Q0 Z p0 p1 p2 p3 h0 n0) 1 4 116 #[.val (.int p0), .val (.int p1), .val (.int p2), .val (.int p3), .val (.int (4 : Int32)), .val (.int y0), .val (.int y1), .val (.int y2), .val (.int y3), .val (.ref b1), .val (.int bt), .val (.long (y0.toInt64)), .second, .unset, .unset] []
      refine own_st (fun _ k => XS.lload X13.here hx rfl (hb hby at_116) rfl k) ?_
      show own_Go X13 (Q0 Z p0 p1 p2 p3 h0 n0) 1 4 118 #[.val (.int p0), .val (.int p1), .val (.int p2), .val (.int p3), .val (.int (4 : Int32)), .val (.int y0), .val (.int y1), .val (.int y2), .val (.int y3), .val (.ref b1), .val (.int bt), .val (.long (y0.toInt64)), .second, .unset, .unset] [(.long (y0.toInt64))]
      refine own_st (fun t k => X13.ldc2Long hx hown (mvT hZ (hw _ (List.mem_of_getElem? (i := 2) rfl))) (g := (mkF m 118 #[.val (.int p0), .val (.int p1), .val (.int p2), .val (.int p3), .val (.int (4 : Int32)), .val (.int y0), .val (.int y1), .val (.int y2), .val (.int y3), .val (.ref b1), .val (.int bt), .val (.long (y0.toInt64)), .second, .unset, .unset] [(.long (y0.toInt64))])) rfl (hb hby at_118) t k) ?_
      show own_Go X13 (Q0 Z p0 p1 p2 p3 h0 n0) 1 4 121 #[.val (.int p0), .val (.int p1), .val (.int p2), .val (.int p3), .val (.int (4 : Int32)), .val (.int y0), .val (.int y1), .val (.int y2), .val (.int y3), .val (.ref b1), .val (.int bt), .val (.long (y0.toInt64)), .second, .unset, .unset] [(.long (256 : Int64)), (.long (y0.toInt64))]
      refine own_st (fun _ k => XS.lmul X13.here hx rfl (hb hby at_121) rfl k) ?_
      show own_Go X13 (Q0 Z p0 p1 p2 p3 h0 n0) 1 4 122 #[.val (.int p0), .val (.int p1), .val (.int p2), .val (.int p3), .val (.int (4 : Int32)), .val (.int y0), .val (.int y1), .val (.int y2), .val (.int y3), .val (.ref b1), .val (.int bt), .val (.long (y0.toInt64)), .second, .unset, .unset] [(.long ((y0.toInt64) * (256 : Int64)))]
      refine own_st (fun _ k => XS.iload X13.here hx rfl (hb hby at_122) rfl k) ?_
      show own_Go X13 (Q0 Z p0 p1 p2 p3 h0 n0) 1 4 124 #[.val (.int p0), .val (.int p1), .val (.int p2), .val (.int p3), .val (.int (4 : Int32)), .val (.int y0), .val (.int y1), .val (.int y2), .val (.int y3), .val (.ref b1), .val (.int bt), .val (.long (y0.toInt64)), .second, .unset, .unset] [(.int y1), (.long ((y0.toInt64) * (256 : Int64)))]
      refine own_st (fun _ k => XS.i2l X13.here hx rfl (hb hby at_124) rfl k) ?_
      show own_Go X13 (Q0 Z p0 p1 p2 p3 h0 n0) 1 4 125 #[.val (.int p0), .val (.int p1), .val (.int p2), .val (.int p3), .val (.int (4 : Int32)), .val (.int y0), .val (.int y1), .val (.int y2), .val (.int y3), .val (.ref b1), .val (.int bt), .val (.long (y0.toInt64)), .second, .unset, .unset] [(.long (y1.toInt64)), (.long ((y0.toInt64) * (256 : Int64)))]
      refine own_st (fun _ k => XS.ladd X13.here hx rfl (hb hby at_125) rfl k) ?_
      show own_Go X13 (Q0 Z p0 p1 p2 p3 h0 n0) 1 4 126 #[.val (.int p0), .val (.int p1), .val (.int p2), .val (.int p3), .val (.int (4 : Int32)), .val (.int y0), .val (.int y1), .val (.int y2), .val (.int y3), .val (.ref b1), .val (.int bt), .val (.long (y0.toInt64)), .second, .unset, .unset] [(.long (((y0.toInt64) * (256 : Int64)) + (y1.toInt64)))]
      refine own_st (fun _ k => XS.lstore X13.here hx rfl (hb hby at_126) rfl (l' := #[.val (.int p0), .val (.int p1), .val (.int p2), .val (.int p3), .val (.int (4 : Int32)), .val (.int y0), .val (.int y1), .val (.int y2), .val (.int y3), .val (.ref b1), .val (.int bt), .val (.long (((y0.toInt64) * (256 : Int64)) + (y1.toInt64))), .second, .unset, .unset]) rfl k) ?_
      show own_Go X13 (Q0 Z p0 p1 p2 p3 h0 n0) 1 4 128 #[.val (.int p0), .val (.int p1), .val (.int p2), .val (.int p3), .val (.int (4 : Int32)), .val (.int y0), .val (.int y1), .val (.int y2), .val (.int y3), .val (.ref b1), .val (.int bt), .val (.long (((y0.toInt64) * (256 : Int64)) + (y1.toInt64))), .second, .unset, .unset] []
      refine own_st (fun _ k => XS.iload X13.here hx rfl (hb hby at_128) rfl k) ?_
      show own_Go X13 (Q0 Z p0 p1 p2 p3 h0 n0) 1 4 130 #[.val (.int p0), .val (.int p1), .val (.int p2), .val (.int p3), .val (.int (4 : Int32)), .val (.int y0), .val (.int y1), .val (.int y2), .val (.int y3), .val (.ref b1), .val (.int bt), .val (.long (((y0.toInt64) * (256 : Int64)) + (y1.toInt64))), .second, .unset, .unset] [(.int (4 : Int32))]
      refine own_st (fun _ k => XS.iconst X13.here hx rfl (hb hby at_130) k) ?_
      show own_Go X13 (Q0 Z p0 p1 p2 p3 h0 n0) 1 4 131 #[.val (.int p0), .val (.int p1), .val (.int p2), .val (.int p3), .val (.int (4 : Int32)), .val (.int y0), .val (.int y1), .val (.int y2), .val (.int y3), .val (.ref b1), .val (.int bt), .val (.long (((y0.toInt64) * (256 : Int64)) + (y1.toInt64))), .second, .unset, .unset] [(.int (2 : Int32)), (.int (4 : Int32))]
      have c131_78 : (2 : Int32) < (4 : Int32) := (by decide)
      refine own_st (fun _ k => XS.icmpNo X13.here hx rfl (hb hby at_131) rfl (tlt c131_78).2.2.2 k) ?_
      show own_Go X13 (Q0 Z p0 p1 p2 p3 h0 n0) 1 4 134 #[.val (.int p0), .val (.int p1), .val (.int p2), .val (.int p3), .val (.int (4 : Int32)), .val (.int y0), .val (.int y1), .val (.int y2), .val (.int y3), .val (.ref b1), .val (.int bt), .val (.long (((y0.toInt64) * (256 : Int64)) + (y1.toInt64))), .second, .unset, .unset] []
      refine own_st (fun _ k => XS.lload X13.here hx rfl (hb hby at_134) rfl k) ?_
      show own_Go X13 (Q0 Z p0 p1 p2 p3 h0 n0) 1 4 136 #[.val (.int p0), .val (.int p1), .val (.int p2), .val (.int p3), .val (.int (4 : Int32)), .val (.int y0), .val (.int y1), .val (.int y2), .val (.int y3), .val (.ref b1), .val (.int bt), .val (.long (((y0.toInt64) * (256 : Int64)) + (y1.toInt64))), .second, .unset, .unset] [(.long (((y0.toInt64) * (256 : Int64)) + (y1.toInt64)))]
      refine own_st (fun t k => X13.ldc2Long hx hown (mvT hZ (hw _ (List.mem_of_getElem? (i := 2) rfl))) (g := (mkF m 136 #[.val (.int p0), .val (.int p1), .val (.int p2), .val (.int p3), .val (.int (4 : Int32)), .val (.int y0), .val (.int y1), .val (.int y2), .val (.int y3), .val (.ref b1), .val (.int bt), .val (.long (((y0.toInt64) * (256 : Int64)) + (y1.toInt64))), .second, .unset, .unset] [(.long (((y0.toInt64) * (256 : Int64)) + (y1.toInt64)))])) rfl (hb hby at_136) t k) ?_
      show own_Go X13 (Q0 Z p0 p1 p2 p3 h0 n0) 1 4 139 #[.val (.int p0), .val (.int p1), .val (.int p2), .val (.int p3), .val (.int (4 : Int32)), .val (.int y0), .val (.int y1), .val (.int y2), .val (.int y3), .val (.ref b1), .val (.int bt), .val (.long (((y0.toInt64) * (256 : Int64)) + (y1.toInt64))), .second, .unset, .unset] [(.long (256 : Int64)), (.long (((y0.toInt64) * (256 : Int64)) + (y1.toInt64)))]
      refine own_st (fun _ k => XS.lmul X13.here hx rfl (hb hby at_139) rfl k) ?_
      show own_Go X13 (Q0 Z p0 p1 p2 p3 h0 n0) 1 4 140 #[.val (.int p0), .val (.int p1), .val (.int p2), .val (.int p3), .val (.int (4 : Int32)), .val (.int y0), .val (.int y1), .val (.int y2), .val (.int y3), .val (.ref b1), .val (.int bt), .val (.long (((y0.toInt64) * (256 : Int64)) + (y1.toInt64))), .second, .unset, .unset] [(.long ((((y0.toInt64) * (256 : Int64)) + (y1.toInt64)) * (256 : Int64)))]
      refine own_st (fun _ k => XS.iload X13.here hx rfl (hb hby at_140) rfl k) ?_
      show own_Go X13 (Q0 Z p0 p1 p2 p3 h0 n0) 1 4 142 #[.val (.int p0), .val (.int p1), .val (.int p2), .val (.int p3), .val (.int (4 : Int32)), .val (.int y0), .val (.int y1), .val (.int y2), .val (.int y3), .val (.ref b1), .val (.int bt), .val (.long (((y0.toInt64) * (256 : Int64)) + (y1.toInt64))), .second, .unset, .unset] [(.int y2), (.long ((((y0.toInt64) * (256 : Int64)) + (y1.toInt64)) * (256 : Int64)))]
      refine own_st (fun _ k => XS.i2l X13.here hx rfl (hb hby at_142) rfl k) ?_
      show own_Go X13 (Q0 Z p0 p1 p2 p3 h0 n0) 1 4 143 #[.val (.int p0), .val (.int p1), .val (.int p2), .val (.int p3), .val (.int (4 : Int32)), .val (.int y0), .val (.int y1), .val (.int y2), .val (.int y3), .val (.ref b1), .val (.int bt), .val (.long (((y0.toInt64) * (256 : Int64)) + (y1.toInt64))), .second, .unset, .unset] [(.long (y2.toInt64)), (.long ((((y0.toInt64) * (256 : Int64)) + (y1.toInt64)) * (256 : Int64)))]
      refine own_st (fun _ k => XS.ladd X13.here hx rfl (hb hby at_143) rfl k) ?_
      show own_Go X13 (Q0 Z p0 p1 p2 p3 h0 n0) 1 4 144 #[.val (.int p0), .val (.int p1), .val (.int p2), .val (.int p3), .val (.int (4 : Int32)), .val (.int y0), .val (.int y1), .val (.int y2), .val (.int y3), .val (.ref b1), .val (.int bt), .val (.long (((y0.toInt64) * (256 : Int64)) + (y1.toInt64))), .second, .unset, .unset] [(.long (((((y0.toInt64) * (256 : Int64)) + (y1.toInt64)) * (256 : Int64)) + (y2.toInt64)))]
      refine own_st (fun _ k => XS.lstore X13.here hx rfl (hb hby at_144) rfl (l' := #[.val (.int p0), .val (.int p1), .val (.int p2), .val (.int p3), .val (.int (4 : Int32)), .val (.int y0), .val (.int y1), .val (.int y2), .val (.int y3), .val (.ref b1), .val (.int bt), .val (.long (((((y0.toInt64) * (256 : Int64)) + (y1.toInt64)) * (256 : Int64)) + (y2.toInt64))), .second, .unset, .unset]) rfl k) ?_
      show own_Go X13 (Q0 Z p0 p1 p2 p3 h0 n0) 1 4 146 #[.val (.int p0), .val (.int p1), .val (.int p2), .val (.int p3), .val (.int (4 : Int32)), .val (.int y0), .val (.int y1), .val (.int y2), .val (.int y3), .val (.ref b1), .val (.int bt), .val (.long (((((y0.toInt64) * (256 : Int64)) + (y1.toInt64)) * (256 : Int64)) + (y2.toInt64))), .second, .unset, .unset] []
      refine own_st (fun _ k => XS.iload X13.here hx rfl (hb hby at_146) rfl k) ?_
      show own_Go X13 (Q0 Z p0 p1 p2 p3 h0 n0) 1 4 148 #[.val (.int p0), .val (.int p1), .val (.int p2), .val (.int p3), .val (.int (4 : Int32)), .val (.int y0), .val (.int y1), .val (.int y2), .val (.int y3), .val (.ref b1), .val (.int bt), .val (.long (((((y0.toInt64) * (256 : Int64)) + (y1.toInt64)) * (256 : Int64)) + (y2.toInt64))), .second, .unset, .unset] [(.int (4 : Int32))]
      refine own_st (fun _ k => XS.iconst X13.here hx rfl (hb hby at_148) k) ?_
      show own_Go X13 (Q0 Z p0 p1 p2 p3 h0 n0) 1 4 149 #[.val (.int p0), .val (.int p1), .val (.int p2), .val (.int p3), .val (.int (4 : Int32)), .val (.int y0), .val (.int y1), .val (.int y2), .val (.int y3), .val (.ref b1), .val (.int bt), .val (.long (((((y0.toInt64) * (256 : Int64)) + (y1.toInt64)) * (256 : Int64)) + (y2.toInt64))), .second, .unset, .unset] [(.int (3 : Int32)), (.int (4 : Int32))]
      have c149_79 : (3 : Int32) < (4 : Int32) := (by decide)
      refine own_st (fun _ k => XS.icmpNo X13.here hx rfl (hb hby at_149) rfl (tlt c149_79).2.2.2 k) ?_
      show own_Go X13 (Q0 Z p0 p1 p2 p3 h0 n0) 1 4 152 #[.val (.int p0), .val (.int p1), .val (.int p2), .val (.int p3), .val (.int (4 : Int32)), .val (.int y0), .val (.int y1), .val (.int y2), .val (.int y3), .val (.ref b1), .val (.int bt), .val (.long (((((y0.toInt64) * (256 : Int64)) + (y1.toInt64)) * (256 : Int64)) + (y2.toInt64))), .second, .unset, .unset] []
      refine own_st (fun _ k => XS.lload X13.here hx rfl (hb hby at_152) rfl k) ?_
      show own_Go X13 (Q0 Z p0 p1 p2 p3 h0 n0) 1 4 154 #[.val (.int p0), .val (.int p1), .val (.int p2), .val (.int p3), .val (.int (4 : Int32)), .val (.int y0), .val (.int y1), .val (.int y2), .val (.int y3), .val (.ref b1), .val (.int bt), .val (.long (((((y0.toInt64) * (256 : Int64)) + (y1.toInt64)) * (256 : Int64)) + (y2.toInt64))), .second, .unset, .unset] [(.long (((((y0.toInt64) * (256 : Int64)) + (y1.toInt64)) * (256 : Int64)) + (y2.toInt64)))]
      refine own_st (fun t k => X13.ldc2Long hx hown (mvT hZ (hw _ (List.mem_of_getElem? (i := 2) rfl))) (g := (mkF m 154 #[.val (.int p0), .val (.int p1), .val (.int p2), .val (.int p3), .val (.int (4 : Int32)), .val (.int y0), .val (.int y1), .val (.int y2), .val (.int y3), .val (.ref b1), .val (.int bt), .val (.long (((((y0.toInt64) * (256 : Int64)) + (y1.toInt64)) * (256 : Int64)) + (y2.toInt64))), .second, .unset, .unset] [(.long (((((y0.toInt64) * (256 : Int64)) + (y1.toInt64)) * (256 : Int64)) + (y2.toInt64)))])) rfl (hb hby at_154) t k) ?_
      show own_Go X13 (Q0 Z p0 p1 p2 p3 h0 n0) 1 4 157 #[.val (.int p0), .val (.int p1), .val (.int p2), .val (.int p3), .val (.int (4 : Int32)), .val (.int y0), .val (.int y1), .val (.int y2), .val (.int y3), .val (.ref b1), .val (.int bt), .val (.long (((((y0.toInt64) * (256 : Int64)) + (y1.toInt64)) * (256 : Int64)) + (y2.toInt64))), .second, .unset, .unset] [(.long (256 : Int64)), (.long (((((y0.toInt64) * (256 : Int64)) + (y1.toInt64)) * (256 : Int64)) + (y2.toInt64)))]
      refine own_st (fun _ k => XS.lmul X13.here hx rfl (hb hby at_157) rfl k) ?_
      show own_Go X13 (Q0 Z p0 p1 p2 p3 h0 n0) 1 4 158 #[.val (.int p0), .val (.int p1), .val (.int p2), .val (.int p3), .val (.int (4 : Int32)), .val (.int y0), .val (.int y1), .val (.int y2), .val (.int y3), .val (.ref b1), .val (.int bt), .val (.long (((((y0.toInt64) * (256 : Int64)) + (y1.toInt64)) * (256 : Int64)) + (y2.toInt64))), .second, .unset, .unset] [(.long ((((((y0.toInt64) * (256 : Int64)) + (y1.toInt64)) * (256 : Int64)) + (y2.toInt64)) * (256 : Int64)))]
      refine own_st (fun _ k => XS.iload X13.here hx rfl (hb hby at_158) rfl k) ?_
      show own_Go X13 (Q0 Z p0 p1 p2 p3 h0 n0) 1 4 160 #[.val (.int p0), .val (.int p1), .val (.int p2), .val (.int p3), .val (.int (4 : Int32)), .val (.int y0), .val (.int y1), .val (.int y2), .val (.int y3), .val (.ref b1), .val (.int bt), .val (.long (((((y0.toInt64) * (256 : Int64)) + (y1.toInt64)) * (256 : Int64)) + (y2.toInt64))), .second, .unset, .unset] [(.int y3), (.long ((((((y0.toInt64) * (256 : Int64)) + (y1.toInt64)) * (256 : Int64)) + (y2.toInt64)) * (256 : Int64)))]
      refine own_st (fun _ k => XS.i2l X13.here hx rfl (hb hby at_160) rfl k) ?_
      show own_Go X13 (Q0 Z p0 p1 p2 p3 h0 n0) 1 4 161 #[.val (.int p0), .val (.int p1), .val (.int p2), .val (.int p3), .val (.int (4 : Int32)), .val (.int y0), .val (.int y1), .val (.int y2), .val (.int y3), .val (.ref b1), .val (.int bt), .val (.long (((((y0.toInt64) * (256 : Int64)) + (y1.toInt64)) * (256 : Int64)) + (y2.toInt64))), .second, .unset, .unset] [(.long (y3.toInt64)), (.long ((((((y0.toInt64) * (256 : Int64)) + (y1.toInt64)) * (256 : Int64)) + (y2.toInt64)) * (256 : Int64)))]
      refine own_st (fun _ k => XS.ladd X13.here hx rfl (hb hby at_161) rfl k) ?_
      show own_Go X13 (Q0 Z p0 p1 p2 p3 h0 n0) 1 4 162 #[.val (.int p0), .val (.int p1), .val (.int p2), .val (.int p3), .val (.int (4 : Int32)), .val (.int y0), .val (.int y1), .val (.int y2), .val (.int y3), .val (.ref b1), .val (.int bt), .val (.long (((((y0.toInt64) * (256 : Int64)) + (y1.toInt64)) * (256 : Int64)) + (y2.toInt64))), .second, .unset, .unset] [(.long (((((((y0.toInt64) * (256 : Int64)) + (y1.toInt64)) * (256 : Int64)) + (y2.toInt64)) * (256 : Int64)) + (y3.toInt64)))]
      refine own_st (fun _ k => XS.lstore X13.here hx rfl (hb hby at_162) rfl (l' := #[.val (.int p0), .val (.int p1), .val (.int p2), .val (.int p3), .val (.int (4 : Int32)), .val (.int y0), .val (.int y1), .val (.int y2), .val (.int y3), .val (.ref b1), .val (.int bt), .val (.long (((((((y0.toInt64) * (256 : Int64)) + (y1.toInt64)) * (256 : Int64)) + (y2.toInt64)) * (256 : Int64)) + (y3.toInt64))), .second, .unset, .unset]) rfl k) ?_
      show own_Go X13 (Q0 Z p0 p1 p2 p3 h0 n0) 1 4 164 #[.val (.int p0), .val (.int p1), .val (.int p2), .val (.int p3), .val (.int (4 : Int32)), .val (.int y0), .val (.int y1), .val (.int y2), .val (.int y3), .val (.ref b1), .val (.int bt), .val (.long (((((((y0.toInt64) * (256 : Int64)) + (y1.toInt64)) * (256 : Int64)) + (y2.toInt64)) * (256 : Int64)) + (y3.toInt64))), .second, .unset, .unset] []
      generalize hvv : (((((((y0.toInt64) * (256 : Int64)) + (y1.toInt64)) * (256 : Int64)) + (y2.toInt64)) * (256 : Int64)) + (y3.toInt64)) = vv
      show own_Go X13 (Q0 Z p0 p1 p2 p3 h0 n0) 1 4 164 #[.val (.int p0), .val (.int p1), .val (.int p2), .val (.int p3), .val (.int (4 : Int32)), .val (.int y0), .val (.int y1), .val (.int y2), .val (.int y3), .val (.ref b1), .val (.int bt), .val (.long vv), .second, .unset, .unset] []
      have z0 := own_b255 hy0
      have z1 := own_b255 hy1
      have z2 := own_b255 hy2
      have z3 := own_b255 hy3
      have hvv' : vv.toInt = ((y0.toInt * 256 + y1.toInt) * 256 + y2.toInt) * 256 + y3.toInt := by rw [← hvv]; exact (own_h (own_h (own_h (c_i2l y0) (by omega) (by omega) (own_b255 hy1)) (by omega) (by omega) (own_b255 hy2)) (by omega) (by omega) (own_b255 hy3))
      refine own_st (fun _ k => XS.iload X13.here hx rfl (hb hby at_164) rfl k) ?_
      show own_Go X13 (Q0 Z p0 p1 p2 p3 h0 n0) 1 4 166 #[.val (.int p0), .val (.int p1), .val (.int p2), .val (.int p3), .val (.int (4 : Int32)), .val (.int y0), .val (.int y1), .val (.int y2), .val (.int y3), .val (.ref b1), .val (.int bt), .val (.long vv), .second, .unset, .unset] [(.int bt)]
      refine own_st (fun _ k => XS.bipush X13.here hx rfl (hb hby at_166) k) ?_
      show own_Go X13 (Q0 Z p0 p1 p2 p3 h0 n0) 1 4 168 #[.val (.int p0), .val (.int p1), .val (.int p2), .val (.int p3), .val (.int (4 : Int32)), .val (.int y0), .val (.int y1), .val (.int y2), .val (.int y3), .val (.ref b1), .val (.int bt), .val (.long vv), .second, .unset, .unset] [(.int (8 : Int32)), (.int bt)]
      refine own_st (fun _ k => XS.iload X13.here hx rfl (hb hby at_168) rfl k) ?_
      show own_Go X13 (Q0 Z p0 p1 p2 p3 h0 n0) 1 4 170 #[.val (.int p0), .val (.int p1), .val (.int p2), .val (.int p3), .val (.int (4 : Int32)), .val (.int y0), .val (.int y1), .val (.int y2), .val (.int y3), .val (.ref b1), .val (.int bt), .val (.long vv), .second, .unset, .unset] [(.int (4 : Int32)), (.int (8 : Int32)), (.int bt)]
      refine own_st (fun _ k => XS.imul X13.here hx rfl (hb hby at_170) rfl k) ?_
      show own_Go X13 (Q0 Z p0 p1 p2 p3 h0 n0) 1 4 171 #[.val (.int p0), .val (.int p1), .val (.int p2), .val (.int p3), .val (.int (4 : Int32)), .val (.int y0), .val (.int y1), .val (.int y2), .val (.int y3), .val (.ref b1), .val (.int bt), .val (.long vv), .second, .unset, .unset] [(.int (32 : Int32)), (.int bt)]
      by_cases c171_80 : bt < (32 : Int32)
      · skip
        refine own_st (fun _ k => XS.icmpNo X13.here hx rfl (hb hby at_171) rfl (tlt c171_80).2.1 k) ?_
        show own_Go X13 (Q0 Z p0 p1 p2 p3 h0 n0) 1 4 174 #[.val (.int p0), .val (.int p1), .val (.int p2), .val (.int p3), .val (.int (4 : Int32)), .val (.int y0), .val (.int y1), .val (.int y2), .val (.int y3), .val (.ref b1), .val (.int bt), .val (.long vv), .second, .unset, .unset] []
        refine own_st (fun _ k => XS.lload X13.here hx rfl (hb hby at_174) rfl k) ?_
        show own_Go X13 (Q0 Z p0 p1 p2 p3 h0 n0) 1 4 176 #[.val (.int p0), .val (.int p1), .val (.int p2), .val (.int p3), .val (.int (4 : Int32)), .val (.int y0), .val (.int y1), .val (.int y2), .val (.int y3), .val (.ref b1), .val (.int bt), .val (.long vv), .second, .unset, .unset] [(.long vv)]
        refine own_st (fun _ k => XS.iload X13.here hx rfl (hb hby at_176) rfl k) ?_
        show own_Go X13 (Q0 Z p0 p1 p2 p3 h0 n0) 1 4 178 #[.val (.int p0), .val (.int p1), .val (.int p2), .val (.int p3), .val (.int (4 : Int32)), .val (.int y0), .val (.int y1), .val (.int y2), .val (.int y3), .val (.ref b1), .val (.int bt), .val (.long vv), .second, .unset, .unset] [(.int bt), (.long vv)]
        refine own_st (fun _ k => XS.lushr X13.here hx rfl (hb hby at_178) rfl k) ?_
        show own_Go X13 (Q0 Z p0 p1 p2 p3 h0 n0) 1 4 179 #[.val (.int p0), .val (.int p1), .val (.int p2), .val (.int p3), .val (.int (4 : Int32)), .val (.int y0), .val (.int y1), .val (.int y2), .val (.int y3), .val (.ref b1), .val (.int bt), .val (.long vv), .second, .unset, .unset] [(.long ((vv.toUInt64 >>> (bt &&& 0x3f).toInt64.toUInt64).toInt64))]
        refine own_st (fun _ k => XS.lconst X13.here hx rfl (hb hby at_179) k) ?_
        show own_Go X13 (Q0 Z p0 p1 p2 p3 h0 n0) 1 4 180 #[.val (.int p0), .val (.int p1), .val (.int p2), .val (.int p3), .val (.int (4 : Int32)), .val (.int y0), .val (.int y1), .val (.int y2), .val (.int y3), .val (.ref b1), .val (.int bt), .val (.long vv), .second, .unset, .unset] [(.long (1 : Int64)), (.long ((vv.toUInt64 >>> (bt &&& 0x3f).toInt64.toUInt64).toInt64))]
        refine own_st (fun _ k => XS.land X13.here hx rfl (hb hby at_180) rfl k) ?_
        show own_Go X13 (Q0 Z p0 p1 p2 p3 h0 n0) 1 4 181 #[.val (.int p0), .val (.int p1), .val (.int p2), .val (.int p3), .val (.int (4 : Int32)), .val (.int y0), .val (.int y1), .val (.int y2), .val (.int y3), .val (.ref b1), .val (.int bt), .val (.long vv), .second, .unset, .unset] [(.long (((vv.toUInt64 >>> (bt &&& 0x3f).toInt64.toUInt64).toInt64) &&& (1 : Int64)))]
        refine own_st (fun _ k => XS.lconst X13.here hx rfl (hb hby at_181) k) ?_
        show own_Go X13 (Q0 Z p0 p1 p2 p3 h0 n0) 1 4 182 #[.val (.int p0), .val (.int p1), .val (.int p2), .val (.int p3), .val (.int (4 : Int32)), .val (.int y0), .val (.int y1), .val (.int y2), .val (.int y3), .val (.ref b1), .val (.int bt), .val (.long vv), .second, .unset, .unset] [(.long (1 : Int64)), (.long (((vv.toUInt64 >>> (bt &&& 0x3f).toInt64.toUInt64).toInt64) &&& (1 : Int64)))]
        refine own_st (fun _ k => XS.lcmp X13.here hx rfl (hb hby at_182) rfl k) ?_
        show own_Go X13 (Q0 Z p0 p1 p2 p3 h0 n0) 1 4 183 #[.val (.int p0), .val (.int p1), .val (.int p2), .val (.int p3), .val (.int (4 : Int32)), .val (.int y0), .val (.int y1), .val (.int y2), .val (.int y3), .val (.ref b1), .val (.int bt), .val (.long vv), .second, .unset, .unset] [(.int (lcmpW (((vv.toUInt64 >>> (bt &&& 0x3f).toInt64.toUInt64).toInt64) &&& (1 : Int64)) (1 : Int64)))]
        by_cases c183_81 : (((vv.toUInt64 >>> (bt &&& 0x3f).toInt64.toUInt64).toInt64) &&& (1 : Int64)) = (1 : Int64)
        · skip
          refine own_st (fun _ k => XS.ifNo X13.here hx rfl (hb hby at_183) rfl ((if0 _ _).trans (teq ((lw_eq _ _).mpr c183_81)).2) k) ?_
          show own_Go X13 (Q0 Z p0 p1 p2 p3 h0 n0) 1 4 186 #[.val (.int p0), .val (.int p1), .val (.int p2), .val (.int p3), .val (.int (4 : Int32)), .val (.int y0), .val (.int y1), .val (.int y2), .val (.int y3), .val (.ref b1), .val (.int bt), .val (.long vv), .second, .unset, .unset] []
          refine own_st (fun _ k => XS.iconst X13.here hx rfl (hb hby at_186) k) ?_
          show own_Go X13 (Q0 Z p0 p1 p2 p3 h0 n0) 1 4 187 #[.val (.int p0), .val (.int p1), .val (.int p2), .val (.int p3), .val (.int (4 : Int32)), .val (.int y0), .val (.int y1), .val (.int y2), .val (.int y3), .val (.ref b1), .val (.int bt), .val (.long vv), .second, .unset, .unset] [(.int (1 : Int32))]
          refine own_st (fun _ k => XS.goto X13.here hx rfl (pc0 := 187) (pc' := 191) rfl (hb hby at_187) (by decide) (by decide) k) ?_
          show own_Go X13 (Q0 Z p0 p1 p2 p3 h0 n0) 1 4 191 #[.val (.int p0), .val (.int p1), .val (.int p2), .val (.int p3), .val (.int (4 : Int32)), .val (.int y0), .val (.int y1), .val (.int y2), .val (.int y3), .val (.ref b1), .val (.int bt), .val (.long vv), .second, .unset, .unset] [(.int (1 : Int32))]
          refine own_st (fun _ k => XS.istore X13.here hx rfl (hb hby at_191) rfl (l' := #[.val (.int p0), .val (.int p1), .val (.int p2), .val (.int p3), .val (.int (4 : Int32)), .val (.int y0), .val (.int y1), .val (.int y2), .val (.int y3), .val (.ref b1), .val (.int bt), .val (.long vv), .second, .val (.int (1 : Int32)), .unset]) rfl k) ?_
          show own_Go X13 (Q0 Z p0 p1 p2 p3 h0 n0) 1 4 193 #[.val (.int p0), .val (.int p1), .val (.int p2), .val (.int p3), .val (.int (4 : Int32)), .val (.int y0), .val (.int y1), .val (.int y2), .val (.int y3), .val (.ref b1), .val (.int bt), .val (.long vv), .second, .val (.int (1 : Int32)), .unset] []
          refine own_st (fun _ k => XS.aload X13.here hx rfl (hb hby at_193) rfl rfl k) ?_
          show own_Go X13 (Q0 Z p0 p1 p2 p3 h0 n0) 1 4 195 #[.val (.int p0), .val (.int p1), .val (.int p2), .val (.int p3), .val (.int (4 : Int32)), .val (.int y0), .val (.int y1), .val (.int y2), .val (.int y3), .val (.ref b1), .val (.int bt), .val (.long vv), .second, .val (.int (1 : Int32)), .unset] [(.ref b1)]
          refine own_st (fun _ k => XS.iload X13.here hx rfl (hb hby at_195) rfl k) ?_
          show own_Go X13 (Q0 Z p0 p1 p2 p3 h0 n0) 1 4 197 #[.val (.int p0), .val (.int p1), .val (.int p2), .val (.int p3), .val (.int (4 : Int32)), .val (.int y0), .val (.int y1), .val (.int y2), .val (.int y3), .val (.ref b1), .val (.int bt), .val (.long vv), .second, .val (.int (1 : Int32)), .unset] [(.int (4 : Int32)), (.ref b1)]
          refine own_st (fun _ k => XS.iload X13.here hx rfl (hb hby at_197) rfl k) ?_
          show own_Go X13 (Q0 Z p0 p1 p2 p3 h0 n0) 1 4 199 #[.val (.int p0), .val (.int p1), .val (.int p2), .val (.int p3), .val (.int (4 : Int32)), .val (.int y0), .val (.int y1), .val (.int y2), .val (.int y3), .val (.ref b1), .val (.int bt), .val (.long vv), .second, .val (.int (1 : Int32)), .unset] [(.int bt), (.int (4 : Int32)), (.ref b1)]
          refine own_callS (W := 0) X13 hx hZ hown (hw _ (List.mem_of_getElem? (i := 3) rfl)) (hw _ (List.mem_of_getElem? (i := 4) rfl)) (hw _ (List.mem_of_getElem? (i := 5) rfl)) (hw _ (List.mem_of_getElem? (i := 6) rfl)) (by decide) (rm1 l Z a0 hw [] b1 (4 : Int32) bt k1 (y0.toInt8.toInt32).toInt8.toInt32 (y1.toInt8.toInt32).toInt8.toInt32 (y2.toInt8.toInt32).toInt8.toInt32 (y3.toInt8.toInt32).toInt8.toInt32 h13 n0 Z_14 U13 (own_ixb (k := (4 : Int32)) (kk := 4) (by decide) (by decide) (by decide) hbt)) (by decide) (by decide) (by rw [hml]; rfl) [(.ref b1), (.int (4 : Int32)), (.int bt)] [] (lenOf pd_0_0 rfl) rfl rfl (Nat.le_of_ble_eq_true rfl) (hb hby at_199) e13 (by decide) (by decide) ?_
          rintro _ T82 L82 X82 ⟨rfl, N82q, e82⟩
          have N_83 := Fr.app N_15 N82q
          show own_Go X82 (Q0 Z p0 p1 p2 p3 h0 n0) 1 4 202 #[.val (.int p0), .val (.int p1), .val (.int p2), .val (.int p3), .val (.int (4 : Int32)), .val (.int y0), .val (.int y1), .val (.int y2), .val (.int y3), .val (.ref b1), .val (.int bt), .val (.long vv), .second, .val (.int (1 : Int32)), .unset] [(.int (own_ib (y0.toInt8.toInt32).toInt8.toInt32 (y1.toInt8.toInt32).toInt8.toInt32 (y2.toInt8.toInt32).toInt8.toInt32 (y3.toInt8.toInt32).toInt8.toInt32 (4 : Int32) bt))]
          refine own_st (fun _ k => XS.istore X82.here hx rfl (hb hby at_202) rfl (l' := #[.val (.int p0), .val (.int p1), .val (.int p2), .val (.int p3), .val (.int (4 : Int32)), .val (.int y0), .val (.int y1), .val (.int y2), .val (.int y3), .val (.ref b1), .val (.int bt), .val (.long vv), .second, .val (.int (1 : Int32)), .val (.int (own_ib (y0.toInt8.toInt32).toInt8.toInt32 (y1.toInt8.toInt32).toInt8.toInt32 (y2.toInt8.toInt32).toInt8.toInt32 (y3.toInt8.toInt32).toInt8.toInt32 (4 : Int32) bt))]) rfl k) ?_
          show own_Go X82 (Q0 Z p0 p1 p2 p3 h0 n0) 1 4 204 #[.val (.int p0), .val (.int p1), .val (.int p2), .val (.int p3), .val (.int (4 : Int32)), .val (.int y0), .val (.int y1), .val (.int y2), .val (.int y3), .val (.ref b1), .val (.int bt), .val (.long vv), .second, .val (.int (1 : Int32)), .val (.int (own_ib (y0.toInt8.toInt32).toInt8.toInt32 (y1.toInt8.toInt32).toInt8.toInt32 (y2.toInt8.toInt32).toInt8.toInt32 (y3.toInt8.toInt32).toInt8.toInt32 (4 : Int32) bt))] []
          refine own_st (fun _ k => XS.iload X82.here hx rfl (hb hby at_204) rfl k) ?_
          show own_Go X82 (Q0 Z p0 p1 p2 p3 h0 n0) 1 4 206 #[.val (.int p0), .val (.int p1), .val (.int p2), .val (.int p3), .val (.int (4 : Int32)), .val (.int y0), .val (.int y1), .val (.int y2), .val (.int y3), .val (.ref b1), .val (.int bt), .val (.long vv), .second, .val (.int (1 : Int32)), .val (.int (own_ib (y0.toInt8.toInt32).toInt8.toInt32 (y1.toInt8.toInt32).toInt8.toInt32 (y2.toInt8.toInt32).toInt8.toInt32 (y3.toInt8.toInt32).toInt8.toInt32 (4 : Int32) bt))] [(.int (own_ib (y0.toInt8.toInt32).toInt8.toInt32 (y1.toInt8.toInt32).toInt8.toInt32 (y2.toInt8.toInt32).toInt8.toInt32 (y3.toInt8.toInt32).toInt8.toInt32 (4 : Int32) bt))]
          refine own_st (fun _ k => XS.iload X82.here hx rfl (hb hby at_206) rfl k) ?_
          show own_Go X82 (Q0 Z p0 p1 p2 p3 h0 n0) 1 4 208 #[.val (.int p0), .val (.int p1), .val (.int p2), .val (.int p3), .val (.int (4 : Int32)), .val (.int y0), .val (.int y1), .val (.int y2), .val (.int y3), .val (.ref b1), .val (.int bt), .val (.long vv), .second, .val (.int (1 : Int32)), .val (.int (own_ib (y0.toInt8.toInt32).toInt8.toInt32 (y1.toInt8.toInt32).toInt8.toInt32 (y2.toInt8.toInt32).toInt8.toInt32 (y3.toInt8.toInt32).toInt8.toInt32 (4 : Int32) bt))] [(.int (1 : Int32)), (.int (own_ib (y0.toInt8.toInt32).toInt8.toInt32 (y1.toInt8.toInt32).toInt8.toInt32 (y2.toInt8.toInt32).toInt8.toInt32 (y3.toInt8.toInt32).toInt8.toInt32 (4 : Int32) bt))]
          have c208_84 : (own_ib (y0.toInt8.toInt32).toInt8.toInt32 (y1.toInt8.toInt32).toInt8.toInt32 (y2.toInt8.toInt32).toInt8.toInt32 (y3.toInt8.toInt32).toInt8.toInt32 (4 : Int32) bt) = (1 : Int32) := by rw [own_m4 z0 z1 z2 z3 hvv' hbt (own_ltN (B := 32) (by decide) c171_80), if_pos c183_81]
          refine own_st (fun _ k => XS.icmpNo X82.here hx rfl (hb hby at_208) rfl (teq c208_84).2 k) ?_
          show own_Go X82 (Q0 Z p0 p1 p2 p3 h0 n0) 1 4 211 #[.val (.int p0), .val (.int p1), .val (.int p2), .val (.int p3), .val (.int (4 : Int32)), .val (.int y0), .val (.int y1), .val (.int y2), .val (.int y3), .val (.ref b1), .val (.int bt), .val (.long vv), .second, .val (.int (1 : Int32)), .val (.int (own_ib (y0.toInt8.toInt32).toInt8.toInt32 (y1.toInt8.toInt32).toInt8.toInt32 (y2.toInt8.toInt32).toInt8.toInt32 (y3.toInt8.toInt32).toInt8.toInt32 (4 : Int32) bt))] []
          refine own_st (fun _ k => XS.iconst X82.here hx rfl (hb hby at_211) k) ?_
          show own_Go X82 (Q0 Z p0 p1 p2 p3 h0 n0) 1 4 212 #[.val (.int p0), .val (.int p1), .val (.int p2), .val (.int p3), .val (.int (4 : Int32)), .val (.int y0), .val (.int y1), .val (.int y2), .val (.int y3), .val (.ref b1), .val (.int bt), .val (.long vv), .second, .val (.int (1 : Int32)), .val (.int (own_ib (y0.toInt8.toInt32).toInt8.toInt32 (y1.toInt8.toInt32).toInt8.toInt32 (y2.toInt8.toInt32).toInt8.toInt32 (y3.toInt8.toInt32).toInt8.toInt32 (4 : Int32) bt))] [(.int (1 : Int32))]
          refine own_st (fun _ k => XS.goto X82.here hx rfl (pc0 := 212) (pc' := 216) rfl (hb hby at_212) (by decide) (by decide) k) ?_
          show own_Go X82 (Q0 Z p0 p1 p2 p3 h0 n0) 1 4 216 #[.val (.int p0), .val (.int p1), .val (.int p2), .val (.int p3), .val (.int (4 : Int32)), .val (.int y0), .val (.int y1), .val (.int y2), .val (.int y3), .val (.ref b1), .val (.int bt), .val (.long vv), .second, .val (.int (1 : Int32)), .val (.int (own_ib (y0.toInt8.toInt32).toInt8.toInt32 (y1.toInt8.toInt32).toInt8.toInt32 (y2.toInt8.toInt32).toInt8.toInt32 (y3.toInt8.toInt32).toInt8.toInt32 (4 : Int32) bt))] [(.int (1 : Int32))]
          refine own_retN X82 hx Bd.returns (by simp) hlk e82 (hb hby at_216) (by decide) (by decide) ?_
          exact ⟨rfl, N_83⟩
        · skip
          refine own_st (fun _ k => XS.ifYes X13.here hx rfl (pc0 := 183) (pc' := 190) rfl (hb hby at_183) rfl ((if0 _ _).trans (feq (fun q => c183_81 ((lw_eq _ _).mp q))).2) (by decide) (by decide) k) ?_
          show own_Go X13 (Q0 Z p0 p1 p2 p3 h0 n0) 1 4 190 #[.val (.int p0), .val (.int p1), .val (.int p2), .val (.int p3), .val (.int (4 : Int32)), .val (.int y0), .val (.int y1), .val (.int y2), .val (.int y3), .val (.ref b1), .val (.int bt), .val (.long vv), .second, .unset, .unset] []
          refine own_st (fun _ k => XS.iconst X13.here hx rfl (hb hby at_190) k) ?_
          show own_Go X13 (Q0 Z p0 p1 p2 p3 h0 n0) 1 4 191 #[.val (.int p0), .val (.int p1), .val (.int p2), .val (.int p3), .val (.int (4 : Int32)), .val (.int y0), .val (.int y1), .val (.int y2), .val (.int y3), .val (.ref b1), .val (.int bt), .val (.long vv), .second, .unset, .unset] [(.int (0 : Int32))]
          refine own_st (fun _ k => XS.istore X13.here hx rfl (hb hby at_191) rfl (l' := #[.val (.int p0), .val (.int p1), .val (.int p2), .val (.int p3), .val (.int (4 : Int32)), .val (.int y0), .val (.int y1), .val (.int y2), .val (.int y3), .val (.ref b1), .val (.int bt), .val (.long vv), .second, .val (.int (0 : Int32)), .unset]) rfl k) ?_
          show own_Go X13 (Q0 Z p0 p1 p2 p3 h0 n0) 1 4 193 #[.val (.int p0), .val (.int p1), .val (.int p2), .val (.int p3), .val (.int (4 : Int32)), .val (.int y0), .val (.int y1), .val (.int y2), .val (.int y3), .val (.ref b1), .val (.int bt), .val (.long vv), .second, .val (.int (0 : Int32)), .unset] []
          refine own_st (fun _ k => XS.aload X13.here hx rfl (hb hby at_193) rfl rfl k) ?_
          show own_Go X13 (Q0 Z p0 p1 p2 p3 h0 n0) 1 4 195 #[.val (.int p0), .val (.int p1), .val (.int p2), .val (.int p3), .val (.int (4 : Int32)), .val (.int y0), .val (.int y1), .val (.int y2), .val (.int y3), .val (.ref b1), .val (.int bt), .val (.long vv), .second, .val (.int (0 : Int32)), .unset] [(.ref b1)]
          refine own_st (fun _ k => XS.iload X13.here hx rfl (hb hby at_195) rfl k) ?_
          show own_Go X13 (Q0 Z p0 p1 p2 p3 h0 n0) 1 4 197 #[.val (.int p0), .val (.int p1), .val (.int p2), .val (.int p3), .val (.int (4 : Int32)), .val (.int y0), .val (.int y1), .val (.int y2), .val (.int y3), .val (.ref b1), .val (.int bt), .val (.long vv), .second, .val (.int (0 : Int32)), .unset] [(.int (4 : Int32)), (.ref b1)]
          refine own_st (fun _ k => XS.iload X13.here hx rfl (hb hby at_197) rfl k) ?_
          show own_Go X13 (Q0 Z p0 p1 p2 p3 h0 n0) 1 4 199 #[.val (.int p0), .val (.int p1), .val (.int p2), .val (.int p3), .val (.int (4 : Int32)), .val (.int y0), .val (.int y1), .val (.int y2), .val (.int y3), .val (.ref b1), .val (.int bt), .val (.long vv), .second, .val (.int (0 : Int32)), .unset] [(.int bt), (.int (4 : Int32)), (.ref b1)]
          refine own_callS (W := 0) X13 hx hZ hown (hw _ (List.mem_of_getElem? (i := 3) rfl)) (hw _ (List.mem_of_getElem? (i := 4) rfl)) (hw _ (List.mem_of_getElem? (i := 5) rfl)) (hw _ (List.mem_of_getElem? (i := 6) rfl)) (by decide) (rm1 l Z a0 hw [] b1 (4 : Int32) bt k1 (y0.toInt8.toInt32).toInt8.toInt32 (y1.toInt8.toInt32).toInt8.toInt32 (y2.toInt8.toInt32).toInt8.toInt32 (y3.toInt8.toInt32).toInt8.toInt32 h13 n0 Z_14 U13 (own_ixb (k := (4 : Int32)) (kk := 4) (by decide) (by decide) (by decide) hbt)) (by decide) (by decide) (by rw [hml]; rfl) [(.ref b1), (.int (4 : Int32)), (.int bt)] [] (lenOf pd_0_0 rfl) rfl rfl (Nat.le_of_ble_eq_true rfl) (hb hby at_199) e13 (by decide) (by decide) ?_
          rintro _ T85 L85 X85 ⟨rfl, N85q, e85⟩
          have N_86 := Fr.app N_15 N85q
          show own_Go X85 (Q0 Z p0 p1 p2 p3 h0 n0) 1 4 202 #[.val (.int p0), .val (.int p1), .val (.int p2), .val (.int p3), .val (.int (4 : Int32)), .val (.int y0), .val (.int y1), .val (.int y2), .val (.int y3), .val (.ref b1), .val (.int bt), .val (.long vv), .second, .val (.int (0 : Int32)), .unset] [(.int (own_ib (y0.toInt8.toInt32).toInt8.toInt32 (y1.toInt8.toInt32).toInt8.toInt32 (y2.toInt8.toInt32).toInt8.toInt32 (y3.toInt8.toInt32).toInt8.toInt32 (4 : Int32) bt))]
          refine own_st (fun _ k => XS.istore X85.here hx rfl (hb hby at_202) rfl (l' := #[.val (.int p0), .val (.int p1), .val (.int p2), .val (.int p3), .val (.int (4 : Int32)), .val (.int y0), .val (.int y1), .val (.int y2), .val (.int y3), .val (.ref b1), .val (.int bt), .val (.long vv), .second, .val (.int (0 : Int32)), .val (.int (own_ib (y0.toInt8.toInt32).toInt8.toInt32 (y1.toInt8.toInt32).toInt8.toInt32 (y2.toInt8.toInt32).toInt8.toInt32 (y3.toInt8.toInt32).toInt8.toInt32 (4 : Int32) bt))]) rfl k) ?_
          show own_Go X85 (Q0 Z p0 p1 p2 p3 h0 n0) 1 4 204 #[.val (.int p0), .val (.int p1), .val (.int p2), .val (.int p3), .val (.int (4 : Int32)), .val (.int y0), .val (.int y1), .val (.int y2), .val (.int y3), .val (.ref b1), .val (.int bt), .val (.long vv), .second, .val (.int (0 : Int32)), .val (.int (own_ib (y0.toInt8.toInt32).toInt8.toInt32 (y1.toInt8.toInt32).toInt8.toInt32 (y2.toInt8.toInt32).toInt8.toInt32 (y3.toInt8.toInt32).toInt8.toInt32 (4 : Int32) bt))] []
          refine own_st (fun _ k => XS.iload X85.here hx rfl (hb hby at_204) rfl k) ?_
          show own_Go X85 (Q0 Z p0 p1 p2 p3 h0 n0) 1 4 206 #[.val (.int p0), .val (.int p1), .val (.int p2), .val (.int p3), .val (.int (4 : Int32)), .val (.int y0), .val (.int y1), .val (.int y2), .val (.int y3), .val (.ref b1), .val (.int bt), .val (.long vv), .second, .val (.int (0 : Int32)), .val (.int (own_ib (y0.toInt8.toInt32).toInt8.toInt32 (y1.toInt8.toInt32).toInt8.toInt32 (y2.toInt8.toInt32).toInt8.toInt32 (y3.toInt8.toInt32).toInt8.toInt32 (4 : Int32) bt))] [(.int (own_ib (y0.toInt8.toInt32).toInt8.toInt32 (y1.toInt8.toInt32).toInt8.toInt32 (y2.toInt8.toInt32).toInt8.toInt32 (y3.toInt8.toInt32).toInt8.toInt32 (4 : Int32) bt))]
          refine own_st (fun _ k => XS.iload X85.here hx rfl (hb hby at_206) rfl k) ?_
          show own_Go X85 (Q0 Z p0 p1 p2 p3 h0 n0) 1 4 208 #[.val (.int p0), .val (.int p1), .val (.int p2), .val (.int p3), .val (.int (4 : Int32)), .val (.int y0), .val (.int y1), .val (.int y2), .val (.int y3), .val (.ref b1), .val (.int bt), .val (.long vv), .second, .val (.int (0 : Int32)), .val (.int (own_ib (y0.toInt8.toInt32).toInt8.toInt32 (y1.toInt8.toInt32).toInt8.toInt32 (y2.toInt8.toInt32).toInt8.toInt32 (y3.toInt8.toInt32).toInt8.toInt32 (4 : Int32) bt))] [(.int (0 : Int32)), (.int (own_ib (y0.toInt8.toInt32).toInt8.toInt32 (y1.toInt8.toInt32).toInt8.toInt32 (y2.toInt8.toInt32).toInt8.toInt32 (y3.toInt8.toInt32).toInt8.toInt32 (4 : Int32) bt))]
          have c208_87 : (own_ib (y0.toInt8.toInt32).toInt8.toInt32 (y1.toInt8.toInt32).toInt8.toInt32 (y2.toInt8.toInt32).toInt8.toInt32 (y3.toInt8.toInt32).toInt8.toInt32 (4 : Int32) bt) = (0 : Int32) := by rw [own_m4 z0 z1 z2 z3 hvv' hbt (own_ltN (B := 32) (by decide) c171_80), if_neg c183_81]
          refine own_st (fun _ k => XS.icmpNo X85.here hx rfl (hb hby at_208) rfl (teq c208_87).2 k) ?_
          show own_Go X85 (Q0 Z p0 p1 p2 p3 h0 n0) 1 4 211 #[.val (.int p0), .val (.int p1), .val (.int p2), .val (.int p3), .val (.int (4 : Int32)), .val (.int y0), .val (.int y1), .val (.int y2), .val (.int y3), .val (.ref b1), .val (.int bt), .val (.long vv), .second, .val (.int (0 : Int32)), .val (.int (own_ib (y0.toInt8.toInt32).toInt8.toInt32 (y1.toInt8.toInt32).toInt8.toInt32 (y2.toInt8.toInt32).toInt8.toInt32 (y3.toInt8.toInt32).toInt8.toInt32 (4 : Int32) bt))] []
          refine own_st (fun _ k => XS.iconst X85.here hx rfl (hb hby at_211) k) ?_
          show own_Go X85 (Q0 Z p0 p1 p2 p3 h0 n0) 1 4 212 #[.val (.int p0), .val (.int p1), .val (.int p2), .val (.int p3), .val (.int (4 : Int32)), .val (.int y0), .val (.int y1), .val (.int y2), .val (.int y3), .val (.ref b1), .val (.int bt), .val (.long vv), .second, .val (.int (0 : Int32)), .val (.int (own_ib (y0.toInt8.toInt32).toInt8.toInt32 (y1.toInt8.toInt32).toInt8.toInt32 (y2.toInt8.toInt32).toInt8.toInt32 (y3.toInt8.toInt32).toInt8.toInt32 (4 : Int32) bt))] [(.int (1 : Int32))]
          refine own_st (fun _ k => XS.goto X85.here hx rfl (pc0 := 212) (pc' := 216) rfl (hb hby at_212) (by decide) (by decide) k) ?_
          show own_Go X85 (Q0 Z p0 p1 p2 p3 h0 n0) 1 4 216 #[.val (.int p0), .val (.int p1), .val (.int p2), .val (.int p3), .val (.int (4 : Int32)), .val (.int y0), .val (.int y1), .val (.int y2), .val (.int y3), .val (.ref b1), .val (.int bt), .val (.long vv), .second, .val (.int (0 : Int32)), .val (.int (own_ib (y0.toInt8.toInt32).toInt8.toInt32 (y1.toInt8.toInt32).toInt8.toInt32 (y2.toInt8.toInt32).toInt8.toInt32 (y3.toInt8.toInt32).toInt8.toInt32 (4 : Int32) bt))] [(.int (1 : Int32))]
          refine own_retN X85 hx Bd.returns (by simp) hlk e85 (hb hby at_216) (by decide) (by decide) ?_
          exact ⟨rfl, N_86⟩
      · skip
        refine own_st (fun _ k => XS.icmpYes X13.here hx rfl (pc0 := 171) (pc' := 190) rfl (hb hby at_171) rfl (flt c171_80).2.1 (by decide) (by decide) k) ?_
        show own_Go X13 (Q0 Z p0 p1 p2 p3 h0 n0) 1 4 190 #[.val (.int p0), .val (.int p1), .val (.int p2), .val (.int p3), .val (.int (4 : Int32)), .val (.int y0), .val (.int y1), .val (.int y2), .val (.int y3), .val (.ref b1), .val (.int bt), .val (.long vv), .second, .unset, .unset] []
        refine own_st (fun _ k => XS.iconst X13.here hx rfl (hb hby at_190) k) ?_
        show own_Go X13 (Q0 Z p0 p1 p2 p3 h0 n0) 1 4 191 #[.val (.int p0), .val (.int p1), .val (.int p2), .val (.int p3), .val (.int (4 : Int32)), .val (.int y0), .val (.int y1), .val (.int y2), .val (.int y3), .val (.ref b1), .val (.int bt), .val (.long vv), .second, .unset, .unset] [(.int (0 : Int32))]
        refine own_st (fun _ k => XS.istore X13.here hx rfl (hb hby at_191) rfl (l' := #[.val (.int p0), .val (.int p1), .val (.int p2), .val (.int p3), .val (.int (4 : Int32)), .val (.int y0), .val (.int y1), .val (.int y2), .val (.int y3), .val (.ref b1), .val (.int bt), .val (.long vv), .second, .val (.int (0 : Int32)), .unset]) rfl k) ?_
        show own_Go X13 (Q0 Z p0 p1 p2 p3 h0 n0) 1 4 193 #[.val (.int p0), .val (.int p1), .val (.int p2), .val (.int p3), .val (.int (4 : Int32)), .val (.int y0), .val (.int y1), .val (.int y2), .val (.int y3), .val (.ref b1), .val (.int bt), .val (.long vv), .second, .val (.int (0 : Int32)), .unset] []
        refine own_st (fun _ k => XS.aload X13.here hx rfl (hb hby at_193) rfl rfl k) ?_
        show own_Go X13 (Q0 Z p0 p1 p2 p3 h0 n0) 1 4 195 #[.val (.int p0), .val (.int p1), .val (.int p2), .val (.int p3), .val (.int (4 : Int32)), .val (.int y0), .val (.int y1), .val (.int y2), .val (.int y3), .val (.ref b1), .val (.int bt), .val (.long vv), .second, .val (.int (0 : Int32)), .unset] [(.ref b1)]
        refine own_st (fun _ k => XS.iload X13.here hx rfl (hb hby at_195) rfl k) ?_
        show own_Go X13 (Q0 Z p0 p1 p2 p3 h0 n0) 1 4 197 #[.val (.int p0), .val (.int p1), .val (.int p2), .val (.int p3), .val (.int (4 : Int32)), .val (.int y0), .val (.int y1), .val (.int y2), .val (.int y3), .val (.ref b1), .val (.int bt), .val (.long vv), .second, .val (.int (0 : Int32)), .unset] [(.int (4 : Int32)), (.ref b1)]
        refine own_st (fun _ k => XS.iload X13.here hx rfl (hb hby at_197) rfl k) ?_
        show own_Go X13 (Q0 Z p0 p1 p2 p3 h0 n0) 1 4 199 #[.val (.int p0), .val (.int p1), .val (.int p2), .val (.int p3), .val (.int (4 : Int32)), .val (.int y0), .val (.int y1), .val (.int y2), .val (.int y3), .val (.ref b1), .val (.int bt), .val (.long vv), .second, .val (.int (0 : Int32)), .unset] [(.int bt), (.int (4 : Int32)), (.ref b1)]
        refine own_callS (W := 0) X13 hx hZ hown (hw _ (List.mem_of_getElem? (i := 3) rfl)) (hw _ (List.mem_of_getElem? (i := 4) rfl)) (hw _ (List.mem_of_getElem? (i := 5) rfl)) (hw _ (List.mem_of_getElem? (i := 6) rfl)) (by decide) (rm1 l Z a0 hw [] b1 (4 : Int32) bt k1 (y0.toInt8.toInt32).toInt8.toInt32 (y1.toInt8.toInt32).toInt8.toInt32 (y2.toInt8.toInt32).toInt8.toInt32 (y3.toInt8.toInt32).toInt8.toInt32 h13 n0 Z_14 U13 (own_ixb (k := (4 : Int32)) (kk := 4) (by decide) (by decide) (by decide) hbt)) (by decide) (by decide) (by rw [hml]; rfl) [(.ref b1), (.int (4 : Int32)), (.int bt)] [] (lenOf pd_0_0 rfl) rfl rfl (Nat.le_of_ble_eq_true rfl) (hb hby at_199) e13 (by decide) (by decide) ?_
        rintro _ T88 L88 X88 ⟨rfl, N88q, e88⟩
        have N_89 := Fr.app N_15 N88q
        show own_Go X88 (Q0 Z p0 p1 p2 p3 h0 n0) 1 4 202 #[.val (.int p0), .val (.int p1), .val (.int p2), .val (.int p3), .val (.int (4 : Int32)), .val (.int y0), .val (.int y1), .val (.int y2), .val (.int y3), .val (.ref b1), .val (.int bt), .val (.long vv), .second, .val (.int (0 : Int32)), .unset] [(.int (own_ib (y0.toInt8.toInt32).toInt8.toInt32 (y1.toInt8.toInt32).toInt8.toInt32 (y2.toInt8.toInt32).toInt8.toInt32 (y3.toInt8.toInt32).toInt8.toInt32 (4 : Int32) bt))]
        refine own_st (fun _ k => XS.istore X88.here hx rfl (hb hby at_202) rfl (l' := #[.val (.int p0), .val (.int p1), .val (.int p2), .val (.int p3), .val (.int (4 : Int32)), .val (.int y0), .val (.int y1), .val (.int y2), .val (.int y3), .val (.ref b1), .val (.int bt), .val (.long vv), .second, .val (.int (0 : Int32)), .val (.int (own_ib (y0.toInt8.toInt32).toInt8.toInt32 (y1.toInt8.toInt32).toInt8.toInt32 (y2.toInt8.toInt32).toInt8.toInt32 (y3.toInt8.toInt32).toInt8.toInt32 (4 : Int32) bt))]) rfl k) ?_
        show own_Go X88 (Q0 Z p0 p1 p2 p3 h0 n0) 1 4 204 #[.val (.int p0), .val (.int p1), .val (.int p2), .val (.int p3), .val (.int (4 : Int32)), .val (.int y0), .val (.int y1), .val (.int y2), .val (.int y3), .val (.ref b1), .val (.int bt), .val (.long vv), .second, .val (.int (0 : Int32)), .val (.int (own_ib (y0.toInt8.toInt32).toInt8.toInt32 (y1.toInt8.toInt32).toInt8.toInt32 (y2.toInt8.toInt32).toInt8.toInt32 (y3.toInt8.toInt32).toInt8.toInt32 (4 : Int32) bt))] []
        refine own_st (fun _ k => XS.iload X88.here hx rfl (hb hby at_204) rfl k) ?_
        show own_Go X88 (Q0 Z p0 p1 p2 p3 h0 n0) 1 4 206 #[.val (.int p0), .val (.int p1), .val (.int p2), .val (.int p3), .val (.int (4 : Int32)), .val (.int y0), .val (.int y1), .val (.int y2), .val (.int y3), .val (.ref b1), .val (.int bt), .val (.long vv), .second, .val (.int (0 : Int32)), .val (.int (own_ib (y0.toInt8.toInt32).toInt8.toInt32 (y1.toInt8.toInt32).toInt8.toInt32 (y2.toInt8.toInt32).toInt8.toInt32 (y3.toInt8.toInt32).toInt8.toInt32 (4 : Int32) bt))] [(.int (own_ib (y0.toInt8.toInt32).toInt8.toInt32 (y1.toInt8.toInt32).toInt8.toInt32 (y2.toInt8.toInt32).toInt8.toInt32 (y3.toInt8.toInt32).toInt8.toInt32 (4 : Int32) bt))]
        refine own_st (fun _ k => XS.iload X88.here hx rfl (hb hby at_206) rfl k) ?_
        show own_Go X88 (Q0 Z p0 p1 p2 p3 h0 n0) 1 4 208 #[.val (.int p0), .val (.int p1), .val (.int p2), .val (.int p3), .val (.int (4 : Int32)), .val (.int y0), .val (.int y1), .val (.int y2), .val (.int y3), .val (.ref b1), .val (.int bt), .val (.long vv), .second, .val (.int (0 : Int32)), .val (.int (own_ib (y0.toInt8.toInt32).toInt8.toInt32 (y1.toInt8.toInt32).toInt8.toInt32 (y2.toInt8.toInt32).toInt8.toInt32 (y3.toInt8.toInt32).toInt8.toInt32 (4 : Int32) bt))] [(.int (0 : Int32)), (.int (own_ib (y0.toInt8.toInt32).toInt8.toInt32 (y1.toInt8.toInt32).toInt8.toInt32 (y2.toInt8.toInt32).toInt8.toInt32 (y3.toInt8.toInt32).toInt8.toInt32 (4 : Int32) bt))]
        have c208_90 : (own_ib (y0.toInt8.toInt32).toInt8.toInt32 (y1.toInt8.toInt32).toInt8.toInt32 (y2.toInt8.toInt32).toInt8.toInt32 (y3.toInt8.toInt32).toInt8.toInt32 (4 : Int32) bt) = (0 : Int32) := own_out (kk := 4) (by decide) (by decide) (by decide) hbt (by have := own_geN (B := 32) (by decide) c171_80; omega)
        refine own_st (fun _ k => XS.icmpNo X88.here hx rfl (hb hby at_208) rfl (teq c208_90).2 k) ?_
        show own_Go X88 (Q0 Z p0 p1 p2 p3 h0 n0) 1 4 211 #[.val (.int p0), .val (.int p1), .val (.int p2), .val (.int p3), .val (.int (4 : Int32)), .val (.int y0), .val (.int y1), .val (.int y2), .val (.int y3), .val (.ref b1), .val (.int bt), .val (.long vv), .second, .val (.int (0 : Int32)), .val (.int (own_ib (y0.toInt8.toInt32).toInt8.toInt32 (y1.toInt8.toInt32).toInt8.toInt32 (y2.toInt8.toInt32).toInt8.toInt32 (y3.toInt8.toInt32).toInt8.toInt32 (4 : Int32) bt))] []
        refine own_st (fun _ k => XS.iconst X88.here hx rfl (hb hby at_211) k) ?_
        show own_Go X88 (Q0 Z p0 p1 p2 p3 h0 n0) 1 4 212 #[.val (.int p0), .val (.int p1), .val (.int p2), .val (.int p3), .val (.int (4 : Int32)), .val (.int y0), .val (.int y1), .val (.int y2), .val (.int y3), .val (.ref b1), .val (.int bt), .val (.long vv), .second, .val (.int (0 : Int32)), .val (.int (own_ib (y0.toInt8.toInt32).toInt8.toInt32 (y1.toInt8.toInt32).toInt8.toInt32 (y2.toInt8.toInt32).toInt8.toInt32 (y3.toInt8.toInt32).toInt8.toInt32 (4 : Int32) bt))] [(.int (1 : Int32))]
        refine own_st (fun _ k => XS.goto X88.here hx rfl (pc0 := 212) (pc' := 216) rfl (hb hby at_212) (by decide) (by decide) k) ?_
        show own_Go X88 (Q0 Z p0 p1 p2 p3 h0 n0) 1 4 216 #[.val (.int p0), .val (.int p1), .val (.int p2), .val (.int p3), .val (.int (4 : Int32)), .val (.int y0), .val (.int y1), .val (.int y2), .val (.int y3), .val (.ref b1), .val (.int bt), .val (.long vv), .second, .val (.int (0 : Int32)), .val (.int (own_ib (y0.toInt8.toInt32).toInt8.toInt32 (y1.toInt8.toInt32).toInt8.toInt32 (y2.toInt8.toInt32).toInt8.toInt32 (y3.toInt8.toInt32).toInt8.toInt32 (4 : Int32) bt))] [(.int (1 : Int32))]
        refine own_retN X88 hx Bd.returns (by simp) hlk e88 (hb hby at_216) (by decide) (by decide) ?_
        exact ⟨rfl, N_89⟩
  by_cases c81_91 : (p3 &&& (1 : Int32)) = (0 : Int32)
  · skip
    refine own_st (fun _ k => XS.ifYes X13.here hx rfl (pc0 := 81) (pc' := 91) rfl (hb hby at_81) rfl ((if0 _ _).trans (teq c81_91).1) (by decide) (by decide) k) ?_
    show own_Go X13 (Q0 Z p0 p1 p2 p3 h0 n0) 1 4 91 #[.val (.int p0), .val (.int p1), .val (.int p2), .val (.int p3), .val (.int ln), .val (.int y0), .val (.int y1), .val (.int y2), .val (.int y3), .val (.ref b1), .unset, .unset, .unset, .unset, .unset] []
    refine own_st (fun _ k => XS.iloadN X13.here hx rfl (hb hby at_91) rfl k) ?_
    show own_Go X13 (Q0 Z p0 p1 p2 p3 h0 n0) 1 4 92 #[.val (.int p0), .val (.int p1), .val (.int p2), .val (.int p3), .val (.int ln), .val (.int y0), .val (.int y1), .val (.int y2), .val (.int y3), .val (.ref b1), .unset, .unset, .unset, .unset, .unset] [(.int p2)]
    refine own_st (fun _ k => XS.bipush X13.here hx rfl (hb hby at_92) k) ?_
    show own_Go X13 (Q0 Z p0 p1 p2 p3 h0 n0) 1 4 94 #[.val (.int p0), .val (.int p1), .val (.int p2), .val (.int p3), .val (.int ln), .val (.int y0), .val (.int y1), .val (.int y2), .val (.int y3), .val (.ref b1), .unset, .unset, .unset, .unset, .unset] [(.int (63 : Int32)), (.int p2)]
    refine own_st (fun _ k => XS.iand X13.here hx rfl (hb hby at_94) rfl k) ?_
    show own_Go X13 (Q0 Z p0 p1 p2 p3 h0 n0) 1 4 95 #[.val (.int p0), .val (.int p1), .val (.int p2), .val (.int p3), .val (.int ln), .val (.int y0), .val (.int y1), .val (.int y2), .val (.int y3), .val (.ref b1), .unset, .unset, .unset, .unset, .unset] [(.int (p2 &&& (63 : Int32)))]
    exact J95 _ (own_m6 p2)
  · skip
    refine own_st (fun _ k => XS.ifNo X13.here hx rfl (hb hby at_81) rfl ((if0 _ _).trans (feq c81_91).1) k) ?_
    show own_Go X13 (Q0 Z p0 p1 p2 p3 h0 n0) 1 4 84 #[.val (.int p0), .val (.int p1), .val (.int p2), .val (.int p3), .val (.int ln), .val (.int y0), .val (.int y1), .val (.int y2), .val (.int y3), .val (.ref b1), .unset, .unset, .unset, .unset, .unset] []
    refine own_st (fun _ k => XS.iloadN X13.here hx rfl (hb hby at_84) rfl k) ?_
    show own_Go X13 (Q0 Z p0 p1 p2 p3 h0 n0) 1 4 85 #[.val (.int p0), .val (.int p1), .val (.int p2), .val (.int p3), .val (.int ln), .val (.int y0), .val (.int y1), .val (.int y2), .val (.int y3), .val (.ref b1), .unset, .unset, .unset, .unset, .unset] [(.int p2)]
    refine own_st (fun t k => X13.ldcInt hx hown (mvT hZ (hw _ (List.mem_of_getElem? (i := 1) rfl))) (g := (mkF m 85 #[.val (.int p0), .val (.int p1), .val (.int p2), .val (.int p3), .val (.int ln), .val (.int y0), .val (.int y1), .val (.int y2), .val (.int y3), .val (.ref b1), .unset, .unset, .unset, .unset, .unset] [(.int p2)])) rfl (hb hby at_85) t k) ?_
    show own_Go X13 (Q0 Z p0 p1 p2 p3 h0 n0) 1 4 87 #[.val (.int p0), .val (.int p1), .val (.int p2), .val (.int p3), .val (.int ln), .val (.int y0), .val (.int y1), .val (.int y2), .val (.int y3), .val (.ref b1), .unset, .unset, .unset, .unset, .unset] [(.int (2147483647 : Int32)), (.int p2)]
    refine own_st (fun _ k => XS.iand X13.here hx rfl (hb hby at_87) rfl k) ?_
    show own_Go X13 (Q0 Z p0 p1 p2 p3 h0 n0) 1 4 88 #[.val (.int p0), .val (.int p1), .val (.int p2), .val (.int p3), .val (.int ln), .val (.int y0), .val (.int y1), .val (.int y2), .val (.int y3), .val (.ref b1), .unset, .unset, .unset, .unset, .unset] [(.int (p2 &&& (2147483647 : Int32)))]
    refine own_st (fun _ k => XS.goto X13.here hx rfl (pc0 := 88) (pc' := 95) rfl (hb hby at_88) (by decide) (by decide) k) ?_
    show own_Go X13 (Q0 Z p0 p1 p2 p3 h0 n0) 1 4 95 #[.val (.int p0), .val (.int p1), .val (.int p2), .val (.int p3), .val (.int ln), .val (.int y0), .val (.int y1), .val (.int y2), .val (.int y3), .val (.ref b1), .unset, .unset, .unset, .unset, .unset] [(.int (p2 &&& (2147483647 : Int32)))]
    exact J95 _ (own_m31 p2)
set_option maxRecDepth 65536 in
set_option maxHeartbeats 40000000 in
theorem comes_1 {Post : Tables → Env → Array Value → State → Outcome → State → Prop} (hpost : ∀ tb e args s v u, (limb_1_1.after args s (.returned v) u = true ∧ limb_1_2.after args s (.returned v) u = true ∧ True) → FrameEnd s (.returned v) u (Jvm.fieldLocs frame_1_writes args s ++ Jvm.arrayLocs frame_1_arrays args s ++ Jvm.staticLocs frame_1_statics s) 16 128 → Post tb e args s (.returned v) u) :
    ArmFor flags0 classFile x code maxLocals ret World_1 tables_1 room_1 Calls_1 rest_1 Pre_1 Post := by
  intro l hfl _ _ p e ha hc hk s m args below hf hA hF happ hP
  obtain ⟨hcalls, hrest, hpre⟩ := hP
  obtain ⟨-, -, -, hnamed, -, -, -, hat⟩ := (Spec.applies_iff hf).mp happ
  obtain ⟨hg, hn⟩ := and_e (Cond.before_iff.mp (show (Jvm.Cond.and given_1 narrow_1).before args s = true from hpre))
  obtain ⟨g1, g2⟩ := and_e hg
  obtain ⟨g3, g4⟩ := and_e g2
  obtain ⟨g5, g6⟩ := and_e g4
  obtain ⟨g7, g8⟩ := and_e g6
  obtain ⟨w0, w1, w2, w3, rfl⟩ : ∃ w0 w1 w2 w3 : Value, args = #[w0, w1, w2, w3] := by
    have hs : args.size = 4 := by simpa [Cond.value, given_1] using g1
    obtain ⟨L⟩ := args
    match L, hs with
    | [w0, w1, w2, w3], _ => exact ⟨w0, w1, w2, w3, rfl⟩
  have hw := fun d (hd : d ∈ tables_1) => atoms_spec (ws := Jvm.Cond.code x code maxLocals ret :: tables_1) hat d (List.mem_cons_of_mem _ hd)
  obtain ⟨i0, ei0⟩ := is_v g3
  obtain rfl : w0 = (.int i0) := Option.some.inj ei0
  obtain ⟨i1, ei1⟩ := is_v g5
  obtain rfl : w1 = (.int i1) := Option.some.inj ei1
  obtain ⟨i2, ei2⟩ := is_v g7
  obtain rfl : w2 = (.int i2) := Option.some.inj ei2
  obtain ⟨i3, ei3⟩ := is_v g8
  obtain rfl : w3 = (.int i3) := Option.some.inj ei3
  obtain ⟨n, o, h1, h2, h3, _, L, rfl, ⟨rfl, N⟩, hq⟩ := rm0 l s _ hw tables_1 i0 i1 i2 i3 s.heap s.heap.size (Nat.le_refl _) p e ha hc hk s m _ below hf ((Spec.applies_iff_loose hf).mp happ).1 ⟨rfl, State.Warmed39.refl s, rfl⟩ trivial
  refine ⟨n, _, h1, h2, h3, hpost _ _ _ _ _ _ ⟨Cond.after_iff.mpr rfl, Cond.after_iff.mpr (eq_i res_at (Term.int_eval (1)) rfl), trivial⟩ ⟨hq.1, hq.2.1, (hq.2.2.sift fun y hy => Or.inr (N y hy)).mono (by decide) (by decide)⟩⟩
theorem main_1_1 : Claimed_1_1 := comes_1 fun _ _ _ _ _ _ h hF => ⟨h.1, hF⟩
theorem main_1_2 : Claimed_1_2 := comes_1 fun _ _ _ _ _ _ h hF => ⟨h.2.1, hF⟩
end Jvm.Pilot.@@N@@
namespace Jvm.Pilot.@@N@@
open Jvm Jvm.ClassFile Sem Op Lib Jvm.Free Jvm.Stand Jvm.Pilot.@@N@@.Jvm.D
/-! MADE BY PROGRAM (witnessworld.py) out of the Statement's table words and the real class files: 9 classes; the members and pool entries that the words name. The judged class is class 1, her method 1. -/
namespace start1
open Jvm.ClassFile
def u (s : String) : CpInfo := .utf8 (stringToUtf16 s)
/-- a pool by its gaps: so many unusable entries, then the entry; so many at the end -/
def gap : Nat → List CpInfo → List CpInfo
  | 0, r => r
  | n + 1, r => .unusable :: gap n r
def poolList (es : List (Nat × CpInfo)) (last : Nat) : List CpInfo := es.foldr (fun e r => gap e.1 (e.2 :: r)) (gap last [])
def pool (es : List (Nat × CpInfo)) (last : Nat) : Array CpInfo := ⟨poolList es last⟩
def fileOf (pool : Array CpInfo) (this : Nat) (attrs : Array Attribute := #[]) (ms : Array MethodInfo := #[]) (fl : Nat := 33) (sup : Nat := 0) (ifs : Array Nat := #[]) (fds : Array FieldInfo := #[]) : ClassFile where
  minorVersion := 0
  majorVersion := 65
  constantPool := pool
  accessFlags := fl
  thisClass := this
  superClass := sup
  interfaces := ifs
  fields := fds
  methods := ms
  attributes := attrs
def plain (name : String) (sup : Option ClassId) : Class where
  name := name
  kind := .ordinary
  loader := none
  accessFlags := 33
  super := sup
  interfaces := #[]
  cf := none
  fields := #[]
  methods := #[]
  instanceTypes := #[]
  staticTypes := #[]
  resolved := #[]
  callSites := []
  init := .initialized
  statics := none
  mirror := none

def pool0 : Array CpInfo := pool [(5, u "<init>"), (0, u "()V"), (1, .class_ 10), (1, u "java/lang/Object")] 113

def k0m0 : Method := { name := "<init>", desc := "()V", sig := { parameters := [], returnType := none }, accessFlags := 1, code := none }
/-- java/lang/Object -/
def k0 : Class := { plain "java/lang/Object" none with
  accessFlags := 33
  interfaces := #[]
  cf := some (fileOf pool0 8 #[] #[{ accessFlags := 1, nameIndex := 5, descriptorIndex := 6, attributes := #[] }] 33 0 #[] #[])
  fields := #[]
  methods := #[k0m0]
  instanceTypes := #[]
  staticTypes := #[]
  resolved := Array.replicate 124 none
  statics := none }

def pool1 : Array CpInfo := pool [(2, .class_ 4), (1, u "java/lang/Object"), (0, u "<init>"), (0, u "()V"), (0, .integer 2147483647), (0, .long 256), (1, .methodref 11 12), (0, .class_ 13), (0, .nameAndType 14 15), (0, u "com/example/wide_berth/wideberth/postgres/Literals"), (0, u "isBitSet"), (0, u "([BII)Z"), (0, .class_ 17), (0, u "com/example/wide_berth/wideberth/postgres/LiteralsIsBitSetPinLaw"), (2, u "law"), (0, u "(IIII)Z")] 5

def k1m0 : Method := { name := "<init>", desc := "()V", sig := { parameters := [], returnType := none }, accessFlags := 2, code := none }
def k1c1 : Code := { maxStack := 4, maxLocals := 15, code := code, exceptionTable := #[], attributes := #[] }
def k1m1 : Method := { name := "law", desc := "(IIII)Z", sig := { parameters := [.int, .int, .int, .int], returnType := some .boolean }, accessFlags := 9, code := some k1c1 }
/-- com/example/wide_berth/wideberth/postgres/LiteralsIsBitSetPinLaw -/
def k1 : Class := { plain "com/example/wide_berth/wideberth/postgres/LiteralsIsBitSetPinLaw" (some 0) with
  accessFlags := 49
  interfaces := #[]
  cf := some (fileOf pool1 16 #[] #[{ accessFlags := 2, nameIndex := 5, descriptorIndex := 6, attributes := #[] }, { accessFlags := 9, nameIndex := 20, descriptorIndex := 21, attributes := #[] }] 49 2 #[] #[])
  fields := #[]
  methods := #[k1m0, k1m1]
  instanceTypes := #[]
  staticTypes := #[]
  resolved := Array.replicate 27 none
  statics := none }

def pool2 : Array CpInfo := pool [(2, .class_ 4), (1, u "java/lang/Object"), (0, u "<init>"), (0, u "()V"), (7, .class_ 16), (1, u "com/example/wide_berth/wideberth/postgres/Literals"), (29, u "DOUBLE_INFINITE"), (0, u "Lcom/example/wide_berth/wideberth/postgres/Literals$Bound;"), (2, u "REAL_INFINITE"), (2, u "DOUBLE_ZERO"), (2, u "REAL_ZERO"), (28, u "([BII)Z"), (39, u "DAYS_IN_MONTH"), (0, u "[I"), (4, .class_ 133), (1, u "com/example/wide_berth/wideberth/postgres/Literals$Bound"), (1, u "J"), (15, u "TWO"), (0, u "Ljava/math/BigInteger;"), (9, u "FIVE"), (19, u "DATE_LENGTH"), (0, u "I"), (2, u "DATETIME_LENGTH"), (1, u "DAYS_TO_1970"), (0, u "SECONDS_A_DAY"), (0, u "MAX_EXPONENT"), (0, u "DUMPED_FLOAT_DIGITS"), (1, u "ROUND_TRIP_FLOAT_DIGITS"), (1, u "ONE_FLOAT_SPAN_DECADE"), (20, u "isBitSet")] 6

def k2m0 : Method := { name := "<init>", desc := "()V", sig := { parameters := [], returnType := none }, accessFlags := 2, code := none }
def k2c1 : Code := { maxStack := 3, maxLocals := 4, code := prog_64_method_13_code, exceptionTable := #[], attributes := #[] }
def k2m1 : Method := { name := "isBitSet", desc := "([BII)Z", sig := { parameters := [(.array .byte), .int, .int], returnType := some .boolean }, accessFlags := 8, code := some k2c1 }
/-- com/example/wide_berth/wideberth/postgres/Literals -/
def k2 : Class := { plain "com/example/wide_berth/wideberth/postgres/Literals" (some 0) with
  accessFlags := 48
  interfaces := #[]
  cf := some (fileOf pool2 14 #[.nestMembers #[131]] #[{ accessFlags := 2, nameIndex := 5, descriptorIndex := 6, attributes := #[] }, { accessFlags := 8, nameIndex := 216, descriptorIndex := 85, attributes := #[] }] 48 2 #[] #[{ accessFlags := 26, nameIndex := 151, descriptorIndex := 152, attributes := #[] }, { accessFlags := 26, nameIndex := 162, descriptorIndex := 152, attributes := #[] }, { accessFlags := 26, nameIndex := 125, descriptorIndex := 126, attributes := #[] }, { accessFlags := 26, nameIndex := 182, descriptorIndex := 183, attributes := #[] }, { accessFlags := 26, nameIndex := 186, descriptorIndex := 183, attributes := #[] }, { accessFlags := 26, nameIndex := 188, descriptorIndex := 135, attributes := #[] }, { accessFlags := 26, nameIndex := 189, descriptorIndex := 135, attributes := #[] }, { accessFlags := 26, nameIndex := 50, descriptorIndex := 47, attributes := #[] }, { accessFlags := 26, nameIndex := 56, descriptorIndex := 47, attributes := #[] }, { accessFlags := 26, nameIndex := 46, descriptorIndex := 47, attributes := #[] }, { accessFlags := 26, nameIndex := 53, descriptorIndex := 47, attributes := #[] }, { accessFlags := 26, nameIndex := 190, descriptorIndex := 135, attributes := #[] }, { accessFlags := 26, nameIndex := 191, descriptorIndex := 183, attributes := #[] }, { accessFlags := 26, nameIndex := 193, descriptorIndex := 183, attributes := #[] }, { accessFlags := 26, nameIndex := 195, descriptorIndex := 135, attributes := #[] }])
  fields := #[{ name := "TWO", type := (.object "java/math/BigInteger"), accessFlags := 26, slot := 0, constantValue := 0 }, { name := "FIVE", type := (.object "java/math/BigInteger"), accessFlags := 26, slot := 1, constantValue := 0 }, { name := "DAYS_IN_MONTH", type := (.array .int), accessFlags := 26, slot := 2, constantValue := 0 }, { name := "DATE_LENGTH", type := .int, accessFlags := 26, slot := 3, constantValue := 0 }, { name := "DATETIME_LENGTH", type := .int, accessFlags := 26, slot := 4, constantValue := 0 }, { name := "DAYS_TO_1970", type := .long, accessFlags := 26, slot := 5, constantValue := 0 }, { name := "SECONDS_A_DAY", type := .long, accessFlags := 26, slot := 6, constantValue := 0 }, { name := "REAL_INFINITE", type := (.object "com/example/wide_berth/wideberth/postgres/Literals$Bound"), accessFlags := 26, slot := 7, constantValue := 0 }, { name := "REAL_ZERO", type := (.object "com/example/wide_berth/wideberth/postgres/Literals$Bound"), accessFlags := 26, slot := 8, constantValue := 0 }, { name := "DOUBLE_INFINITE", type := (.object "com/example/wide_berth/wideberth/postgres/Literals$Bound"), accessFlags := 26, slot := 9, constantValue := 0 }, { name := "DOUBLE_ZERO", type := (.object "com/example/wide_berth/wideberth/postgres/Literals$Bound"), accessFlags := 26, slot := 10, constantValue := 0 }, { name := "MAX_EXPONENT", type := .long, accessFlags := 26, slot := 11, constantValue := 0 }, { name := "DUMPED_FLOAT_DIGITS", type := .int, accessFlags := 26, slot := 12, constantValue := 0 }, { name := "ROUND_TRIP_FLOAT_DIGITS", type := .int, accessFlags := 26, slot := 13, constantValue := 0 }, { name := "ONE_FLOAT_SPAN_DECADE", type := .long, accessFlags := 26, slot := 14, constantValue := 0 }]
  methods := #[k2m0, k2m1]
  instanceTypes := #[]
  staticTypes := #[(.object "java/math/BigInteger"), (.object "java/math/BigInteger"), (.array .int), .int, .int, .long, .long, (.object "com/example/wide_berth/wideberth/postgres/Literals$Bound"), (.object "com/example/wide_berth/wideberth/postgres/Literals$Bound"), (.object "com/example/wide_berth/wideberth/postgres/Literals$Bound"), (.object "com/example/wide_berth/wideberth/postgres/Literals$Bound"), .long, .int, .int, .long]
  resolved := Array.replicate 223 none
  statics := none }

def pool3 : Array CpInfo := pool [(1, u "java/lang/Cloneable"), (0, .class_ 1), (0, u "java/lang/Object"), (0, .class_ 3)] 3

/-- java/lang/Cloneable -/
def k3 : Class := { plain "java/lang/Cloneable" (some 0) with
  accessFlags := 1537
  interfaces := #[]
  cf := some (fileOf pool3 2 #[] #[] 1537 4 #[] #[])
  fields := #[]
  methods := #[]
  instanceTypes := #[]
  staticTypes := #[]
  resolved := Array.replicate 8 none
  statics := none }

def pool4 : Array CpInfo := pool [(1, u "java/io/Serializable"), (0, .class_ 1), (0, u "java/lang/Object"), (0, .class_ 3)] 3

/-- java/io/Serializable -/
def k4 : Class := { plain "java/io/Serializable" (some 0) with
  accessFlags := 1537
  interfaces := #[]
  cf := some (fileOf pool4 2 #[] #[] 1537 4 #[] #[])
  fields := #[]
  methods := #[]
  instanceTypes := #[]
  staticTypes := #[]
  resolved := Array.replicate 8 none
  statics := none }

/-- the primitive byte -/
def k5 : Class := { plain "byte" none with kind := .primitive 'B', accessFlags := 0x411 }
/-- [B -/
def k6 : Class := { plain "[B" (some 0) with kind := .array 5 .byte, interfaces := #[3, 4], accessFlags := 1041 }

/-- the primitive int -/
def k7 : Class := { plain "int" none with kind := .primitive 'I', accessFlags := 0x411 }
/-- [I -/
def k8 : Class := { plain "[I" (some 0) with kind := .array 7 .int, interfaces := #[3, 4], accessFlags := 1041 }

def heap : Heap := #[]
def classes : Array Class := #[k0, k1, k2, k3, k4, k5, k6, k7, k8]
def interned : List (Array UInt16 × Addr) := []
def slotsUsed : Nat := 0
def theMethod : MethodId := ⟨1, 1⟩
def args0 : Array Value := #[.int 5, .int 7, .int 9, .int 11]
def aboutOver (below : List Frame) : State where
  vm := { classes := classes, interned := interned.toArray }
  heap := heap
  slotsUsed := slotsUsed
  threads := #[{ frames := .invoking theMethod args0 :: below }]
def below0 : List Frame := [.native { method := ⟨0, 0⟩, args := #[] }]
def about1 : State := aboutOver below0
def p0 : Program := .bare "" "" ""
def e0 : Env := launch0.env 0 0 0
theorem w_frames : about1.frames = Frame.invoking theMethod args0 :: below0 := rfl
set_option maxRecDepth 65536 in
theorem w_args : argsFit about1.vm theMethod args0 = true := by decide +kernel
set_option maxRecDepth 65536 in
theorem w_heap : heapFits about1 = true := by decide +kernel
set_option maxRecDepth 65536 in
theorem w_runnable : about1.curStatus? = some .runnable := by decide +kernel
set_option maxRecDepth 65536 in
theorem w_alone : about1.alone = true := by decide +kernel
set_option maxRecDepth 65536 in
theorem w_named : about1.methodNamed? x = some theMethod := by decide +kernel
set_option maxRecDepth 65536 in
theorem w_hears : about1.hears theMethod below0 = true := by decide +kernel
set_option maxRecDepth 65536 in
theorem w_ripe : about1.ripe theMethod args0 below0 = true := by decide +kernel
theorem w_running : about1.status = .running := rfl
set_option maxRecDepth 65536 in
theorem w_room : about1.hasRoom e0.platform room_1 = true :=
  launch0.hasRoom_least _ room_1 (by decide +kernel) (by decide +kernel) (by decide +kernel) (by decide +kernel) (by decide +kernel) (by decide +kernel)
theorem allAtoms_all (ts : List Jvm.Cond) (a : Array Jvm.Value) (st : Jvm.State) : (allAtoms ts).before a st = ts.all (fun c => c.before a st) := by
  induction ts with
  | nil => rfl
  | cons c t ih =>
    show (Jvm.Cond.and c (allAtoms t)).before a st = _
    rw [Jvm.Cond.before_and, ih, List.all_cons]
def words1 : List Jvm.Cond := Jvm.Cond.code x code maxLocals ret :: tables_1
/-- a 'code' word, met by the world's own term for the bytes: nothing is compared byte by byte -/
theorem code_word {y : MethodName} {bytes : ByteArray} {mx : Nat} {rt : Option FieldType} {a : Array Value} {s : State} {m : MethodId} {meth : Method} {c : Code} (h1 : s.methodNamed? y = some m) (h2 : s.vm.method? m = some meth) (h3 : meth.code = some c) (h4 : c.code = bytes)
    (h5 : (c.maxLocals == mx && c.exceptionTable.isEmpty && decide (c.maxStack ≤ mostOperands) && decide (meth.sig.returnType = rt) && !meth.locks && decide (parseMethodDescriptor y.desc = some meth.sig)) = true) : (Jvm.Cond.code y bytes mx rt).before a s = true := by
  simp only [Bool.and_eq_true, beq_iff_eq, Bool.not_eq_true', decide_eq_true_eq] at h5
  obtain ⟨⟨⟨⟨⟨g1, g2⟩, g3⟩, g4⟩, g5⟩, g6⟩ := h5
  simp [Cond.before, Cond.holds, Cond.value, h1, h2, h3, h4, g1, g2, g3, g4, g5, g6]
def isCode : Jvm.Cond → Bool
  | .code _ _ _ _ => true
  | _ => false
theorem all_split {L : List Jvm.Cond} {P : Jvm.Cond → Bool} (h1 : L.all (fun c => isCode c || P c) = true) (h2 : ∀ c ∈ L.filter isCode, P c = true) : L.all P = true := by
  refine List.all_eq_true.mpr fun c hc => ?_
  have h := List.all_eq_true.mp h1 c hc
  rcases Bool.eq_false_or_eq_true (isCode c) with hi | hi
  · exact h2 c (List.mem_filter.mpr ⟨hc, hi⟩)
  · simpa [hi] using h
set_option maxRecDepth 65536 in
theorem w_c0 : (Jvm.Cond.code x code maxLocals ret).before args0 about1 = true := code_word (m := ⟨1, 1⟩) (meth := k1m1) (c := k1c1) (by decide +kernel) rfl rfl rfl (by decide +kernel)
set_option maxRecDepth 65536 in
theorem w_c1 : (Jvm.Cond.code ({ cls := "com/example/wide_berth/wideberth/postgres/Literals", name := "isBitSet", desc := "([BII)Z" } : Jvm.MethodName) prog_64_method_13_code (4 : Nat) (Option.some Jvm.ClassFile.FieldType.boolean)).before args0 about1 = true := code_word (m := ⟨2, 1⟩) (meth := k2m1) (c := k2c1) (by decide +kernel) rfl rfl rfl (by decide +kernel)
def codes1 : List Jvm.Cond := [Jvm.Cond.code x code maxLocals ret, Jvm.Cond.code ({ cls := "com/example/wide_berth/wideberth/postgres/Literals", name := "isBitSet", desc := "([BII)Z" } : Jvm.MethodName) prog_64_method_13_code (4 : Nat) (Option.some Jvm.ClassFile.FieldType.boolean)]
set_option maxRecDepth 65536 in
theorem codes_eq : words1.filter isCode = codes1 := rfl
theorem w_codes : ∀ c ∈ words1.filter isCode, c.before args0 about1 = true := by
  rw [codes_eq]
  intro c hc
  simp only [codes1, List.mem_cons, List.not_mem_nil, or_false] at hc
  rcases hc with rfl | rfl
  · exact w_c0
  · exact w_c1
set_option maxRecDepth 65536 in
theorem w_t1 : words1.all (fun c => isCode c || c.before args0 about1) = true := by decide +kernel
theorem w_tables : (allAtoms (Jvm.Cond.code x code maxLocals ret :: tables_1)).before args0 about1 = true := by
  rw [allAtoms_all]
  show words1.all (fun c => c.before args0 about1) = true
  refine all_split ?_ w_codes
  rw [w_t1]
set_option maxRecDepth 65536 in
theorem w_case : (Jvm.Cond.and given_1 narrow_1).before args0 about1 = true := by decide +kernel
theorem w_applies : (headSpec (Jvm.Cond.code x code maxLocals ret :: tables_1) room_1).applies x e0.platform about1 = true :=
  (Spec.applies_iff w_frames).mpr ⟨w_running, w_runnable, w_alone, w_named, w_hears, w_ripe, w_room, w_tables⟩
theorem atStart : AtStart classFile x code maxLocals ret World_1 tables_1 room_1 Calls_1 rest_1 Pre_1 launch0 p0 e0 about1 theMethod args0 below0 :=
  ⟨lists_1, trivial, launch0.admits_env _ _ _, launch0.least_env, fairChoices_fair.cas, fairChoices_fair.clock, w_frames, w_args, w_heap, w_applies, trivial, trivial, w_case⟩
end start1
theorem witness_1 : WitnessClaimed_1 := ⟨start1.p0, start1.e0, start1.about1, start1.theMethod, start1.args0, start1.below0, start1.atStart⟩
end Jvm.Pilot.@@N@@
