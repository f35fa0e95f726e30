import JvmDerived
import JvmDerived.Pilot.@@N@@Statement
import JvmDerived.Pilot.@@N@@Code
set_option linter.unusedVariables false
set_option linter.unusedSimpArgs false
namespace Own
open Jvm Jvm.ClassFile Sem Op Lib Jvm.Stand Jvm.Free Jvm.LawKit Jvm.RoadKit
def Fin (p : Program) (e : Env) (below : List Frame) (G : State) (Q : Outcome → State → Prop) : Prop :=
  ∃ s₂ o, Steps p.tables e below G s₂ ∧ s₂.status = .running ∧ Ended s₂ below o ∧ Q o s₂
def Post (s : State) (K : Option Value → Heap → List Loc → Prop) (cc ss : Nat) (o : Outcome) (U : State) : Prop :=
  ∃ v L, o = .returned v ∧ K v U.heap L ∧ FrameEnd s o U L cc ss
theorem go {p : Program} {e : Env} {below : List Frame} {G G' : State} {Q : Outcome → State → Prop} (h : ∀ t, Steps p.tables e below G' t → Steps p.tables e below G t) (k : Fin p e below G' Q) : Fin p e below G Q := by
  obtain ⟨s₂, o, h1, h2⟩ := k
  exact ⟨s₂, o, h _ h1, h2⟩
theorem start {p : Program} {e : Env} {below : List Frame} {T : State} {g g' : JFrame} {Q : Outcome → State → Prop} (q : g = g') (k : Fin p e below (T.setTop g') Q) : Fin p e below (T.setTop g) Q := q ▸ k
theorem clamp_lt {j z : Int32} {n : Nat} (hj : ¬ j < 0 ∧ j < z) (hz : z.toNatClampNeg = n) : j.toNatClampNeg < n := by
  subst hz
  have h1 := hj.1; have h2 := hj.2
  rw [Int32.lt_iff_toInt_lt] at h1 h2
  have h0 : (0 : Int32).toInt = 0 := by decide
  rw [h0] at h1
  show j.toInt.toNat < z.toInt.toNat
  omega
section A
variable {p : Program} {l : Launch} {e : Env} {R : Room} {s : State} {m : MethodId} {args : Array Value} {below : List Frame} {meth : Method} {c : Code} {T : State} {locs : List Loc} {cells slots : Nat}
theorem retAny (X : Stand p l e R s m args below meth c T locs cells slots) {v : Option Value} (hlk : meth.locks = false) (hv : meth.sig.returnType = none → v = none) {g : JFrame}
    (hstep : ∀ fs, (∀ (f : JFrame) (acts : List Action), f.method = m → f.locked = none → f.entered = [] → (doReturn e (T.setTop f) acts v).1 = T.setFrames fs) → Steps p.tables e below (T.setTop g) (T.setFrames fs))
    {K : Option Value → Heap → List Loc → Prop} {cc ss : Nat} (hc : cells ≤ cc) (hs : slots ≤ ss) (hk : K v T.heap locs) : Fin p e below (T.setTop g) (Post s K cc ss) := by
  obtain ⟨fs, hr, hrun, hended, hW, hsame⟩ := X.leave (v := v) hv hlk
  exact ⟨_, _, hstep fs hr, hrun, hended, _, _, rfl, hk, ⟨_, rfl⟩, hW, hsame.mono hc hs⟩
theorem retI (X : Stand p l e R s m args below meth c T locs cells slots) (hx : p.tables.exec = Jvm.exec) (hlk : meth.locks = false) (hret : meth.sig.returnType = some .int) {pc : Nat} {Ls : Array Slot} {z : Int32} {rest : List Value} (hd : decode c.code pc = .ok (.ireturn, 1))
    {K : Option Value → Heap → List Loc → Prop} {cc ss : Nat} (hc : cells ≤ cc) (hs : slots ≤ ss) (hk : K (some (.int z)) T.heap locs) : Fin p e below (T.setTop (mkF m pc Ls (.int z :: rest))) (Post s K cc ss) := by
  refine retAny X (v := some (.int z)) hlk (fun h => by rw [hret] at h; cases h) (fun fs hl => ?_) hc hs hk
  have hm' : T.vm.method? m = some meth := X.method'
  have hn : narrow .int (.int z) = .int z := rfl
  show Steps p.tables e below (T.setTop { method := m, pc := pc, locals := Ls, stack := _ :: rest, locked := none }) _
  jvm_step X.here [X.here.top, hx, hd, hm', hret, hn]
  first | (intro acts; rw [hl _ acts rfl rfl rfl]) | rw [hl _ _ rfl rfl rfl]
  exact Steps.refl _
theorem retN (X : Stand p l e R s m args below meth c T locs cells slots) (hx : p.tables.exec = Jvm.exec) (hlk : meth.locks = false) {t : FieldType} (hret : meth.sig.returnType = some t) (ht : t = .boolean ∨ t = .byte ∨ t = .char ∨ t = .short) {pc : Nat} {Ls : Array Slot} {z : Int32} {rest : List Value} (hd : decode c.code pc = .ok (.ireturn, 1))
    {K : Option Value → Heap → List Loc → Prop} {cc ss : Nat} (hc : cells ≤ cc) (hs : slots ≤ ss) (hk : K (some (.int (nar t z))) T.heap locs) : Fin p e below (T.setTop (mkF m pc Ls (.int z :: rest))) (Post s K cc ss) :=
  retAny X (v := some (.int (nar t z))) hlk (fun h => by rw [hret] at h; cases h) (fun fs hl => RoadKit.retN X hx hret ht hd hl) hc hs hk
theorem retJ (X : Stand p l e R s m args below meth c T locs cells slots) (hx : p.tables.exec = Jvm.exec) (hlk : meth.locks = false) (hret : meth.sig.returnType = some .long) {pc : Nat} {Ls : Array Slot} {z : Int64} {rest : List Value} (hd : decode c.code pc = .ok (.lreturn, 1))
    {K : Option Value → Heap → List Loc → Prop} {cc ss : Nat} (hc : cells ≤ cc) (hs : slots ≤ ss) (hk : K (some (.long z)) T.heap locs) : Fin p e below (T.setTop (mkF m pc Ls (.long z :: rest))) (Post s K cc ss) := by
  refine retAny X (v := some (.long z)) hlk (fun h => by rw [hret] at h; cases h) (fun fs hl => ?_) hc hs hk
  have hm' : T.vm.method? m = some meth := X.method'
  show Steps p.tables e below (T.setTop { method := m, pc := pc, locals := Ls, stack := _ :: rest, locked := none }) _
  jvm_step X.here [X.here.top, hx, hd, hm', hret, narrow]
  first | (intro acts; rw [hl _ acts rfl rfl rfl]) | rw [hl _ _ rfl rfl rfl]
  exact Steps.refl _
theorem retD (X : Stand p l e R s m args below meth c T locs cells slots) (hx : p.tables.exec = Jvm.exec) (hlk : meth.locks = false) (hret : meth.sig.returnType = some .double) {pc : Nat} {Ls : Array Slot} {z : UInt64} {rest : List Value} (hd : decode c.code pc = .ok (.dreturn, 1))
    {K : Option Value → Heap → List Loc → Prop} {cc ss : Nat} (hc : cells ≤ cc) (hs : slots ≤ ss) (hk : K (some (.double z)) T.heap locs) : Fin p e below (T.setTop (mkF m pc Ls (.double z :: rest))) (Post s K cc ss) := by
  refine retAny X (v := some (.double z)) hlk (fun h => by rw [hret] at h; cases h) (fun fs hl => ?_) hc hs hk
  have hm' : T.vm.method? m = some meth := X.method'
  show Steps p.tables e below (T.setTop { method := m, pc := pc, locals := Ls, stack := _ :: rest, locked := none }) _
  jvm_step X.here [X.here.top, hx, hd, hm', hret, narrow]
  first | (intro acts; rw [hl _ acts rfl rfl rfl]) | rw [hl _ _ rfl rfl rfl]
  exact Steps.refl _
theorem retV (X : Stand p l e R s m args below meth c T locs cells slots) (hx : p.tables.exec = Jvm.exec) (hlk : meth.locks = false) (hret : meth.sig.returnType = none) {pc : Nat} {Ls : Array Slot} (hd : decode c.code pc = .ok (.return_, 1))
    {K : Option Value → Heap → List Loc → Prop} {cc ss : Nat} (hc : cells ≤ cc) (hs : slots ≤ ss) (hk : K none T.heap locs) : Fin p e below (T.setTop (mkF m pc Ls [])) (Post s K cc ss) :=
  retAny X (v := none) hlk (fun _ => rfl) (fun fs hl => X.returnOut hx hret hd hl) hc hs hk
theorem cS {Z : State} {a0 : Array Value} {h : Heap} (X : Stand p l e R s m args below meth c T locs cells slots) (hx : p.tables.exec = Jvm.exec) (hZ : Z.Warmed39 s.vm) {own : String} {index : Nat} {y : MethodName} {bytes : ByteArray} {maxL : Nat} {ret : Option FieldType} {rm : Room} {as' : Array Value} {Q : Option Value → Heap → List Loc → Prop}
    (hown : s.vm.findClass own = some m.cls) (w1 : (Cond.methodLink own index y).before a0 Z = true) (w2 : (Cond.static y).before a0 Z = true) (w3 : (Cond.initialized y.cls).before a0 Z = true) (w4 : (Cond.code y bytes maxL ret).before a0 Z = true)
    (hy : y.cls ≠ "java/lang/invoke/MethodHandle" ∧ y.cls ≠ "java/lang/invoke/VarHandle")
    (hM : MetFree l y (head1 [Cond.code y bytes maxL ret] rm) (fun a U => a = as' ∧ Z.Warmed39 U.vm ∧ U.heap = h) (fun _ _ _ _ _ => True) (fun _ U o U' => ∃ v L, o = .returned v ∧ Q v U'.heap L ∧ FrameEnd U o U' L rm.cells rm.slots))
    (hf : rm.frames + 1 ≤ R.frames) {W : Nat} (hl : W + (maxL + 11) + rm.locals ≤ R.locals) {pc : Nat} {ls : Array Slot} {argsL rest : List Value} (hsize : ls.size = c.maxLocals) (hlen : ∀ sig, parseMethodDescriptor y.desc = some sig → argsL.length = sig.parameters.length)
    (has : argsL.toArray = as') (hW : (rest.map fun v => v.category).sum ≤ W) (hd : decode c.code pc = .ok (.invokestatic index, 3)) (eT : T.heap = h) (hcc : cells + rm.cells ≤ R.cells) (hss : slots + rm.slots ≤ R.slots) {P : Outcome → State → Prop}
    (k : ∀ T' L v, Stand p l e R s m args below meth c T' (locs ++ L) (cells + rm.cells) (slots + rm.slots) → Q v T'.heap L → Fin p e below (T'.setTop (mkF m (pc + 3) ls (v.toList ++ rest))) P) :
    Fin p e below (T.setTop (mkF m pc ls (argsL.reverse ++ rest))) P := by
  obtain ⟨v, _, ⟨T', L', k', n'⟩, -, X', ⟨L, hQ, e1, e2, e3⟩, st⟩ := Jvm.LawKit.callS X hx (y := y) hown (mvT hZ w1) (mvT hZ w2) (mvT hZ w3) (mvT hZ w4) hy (backOf (W := W) hM hZ w4 w3 hf hl) (g := mkF m pc ls (argsL.reverse ++ rest)) rfl hsize (argsL := argsL) (rest := rest) hlen rfl
    (by show 2 * 0 + _ ≤ _; omega) hd (fun _ _ => ⟨has, eT, hcc, hss⟩)
  dsimp only [Pt.U, Pt.locs, Pt.cells, Pt.slots] at X' e1 e2 e3 st hQ
  subst e1 e2 e3
  exact go st (k T' L v X' hQ)
theorem cI {Z : State} {a0 : Array Value} {h : Heap} (X : Stand p l e R s m args below meth c T locs cells slots) (hx : p.tables.exec = Jvm.exec) (hZ : Z.Warmed39 s.vm) {own : String} {index : Nat} {y : MethodName} {bytes : ByteArray} {maxL : Nat} {rm : Room} {as' : Array Value} {Q : Option Value → Heap → List Loc → Prop}
    (hy1 : y.name = "<init>") (hown : s.vm.findClass own = some m.cls) (w1 : (Cond.methodLink own index y).before a0 Z = true) (w2 : (Cond.instanceMethod y).before a0 Z = true) (w3 : (Cond.initialized y.cls).before a0 Z = true) (w4 : (Cond.code y bytes maxL none).before a0 Z = true)
    (hy : y.cls ≠ "java/lang/invoke/MethodHandle" ∧ y.cls ≠ "java/lang/invoke/VarHandle")
    (hM : MetFree l y (head1 [Cond.code y bytes maxL none] rm) (fun a U => a = as' ∧ Z.Warmed39 U.vm ∧ U.heap = h) (fun _ _ _ _ _ => True) (fun _ U o U' => ∃ v L, o = .returned v ∧ Q v U'.heap L ∧ FrameEnd U o U' L rm.cells rm.slots))
    (hf : rm.frames + 1 ≤ R.frames) {W : Nat} (hl : W + (maxL + 11) + rm.locals ≤ R.locals) {pc : Nat} {ls : Array Slot} {a : Addr} {argsL rest : List Value} (hsize : ls.size = c.maxLocals) (hlen : ∀ sig, parseMethodDescriptor y.desc = some sig → argsL.length = sig.parameters.length)
    (has : (Value.ref a :: argsL).toArray = as') (hW : (rest.map fun v => v.category).sum ≤ W) (hd : decode c.code pc = .ok (.invokespecial index, 3)) (eT : T.heap = h) (hcc : cells + rm.cells ≤ R.cells) (hss : slots + rm.slots ≤ R.slots) {P : Outcome → State → Prop}
    (k : ∀ T' L v, Stand p l e R s m args below meth c T' (locs ++ L) (cells + rm.cells) (slots + rm.slots) → Q v T'.heap L → Fin p e below (T'.setTop (mkF m (pc + 3) ls (v.toList ++ rest))) P) :
    Fin p e below (T.setTop (mkF m pc ls (argsL.reverse ++ .ref a :: rest))) P := by
  obtain ⟨v, _, ⟨T', L', k', n'⟩, -, X', ⟨L, hQ, e1, e2, e3⟩, st⟩ := X.specialBack hx (y := y) hy1 hown (mvT hZ w1) (mvT hZ w2) (mvT hZ w4) hy (backOf (W := W) hM hZ w4 w3 hf hl) (g := mkF m pc ls (argsL.reverse ++ .ref a :: rest)) rfl hsize (Steps.refl _) (a := a) (argsL := argsL) (rest := rest) hlen rfl
    (by show 2 * 0 + _ ≤ _; omega) hd (fun _ _ => ⟨has, eT, hcc, hss⟩)
  dsimp only [Pt.U, Pt.locs, Pt.cells, Pt.slots] at X' e1 e2 e3 st hQ
  subst e1 e2 e3
  exact go (fun t kt => st.trans kt) (k T' L v X' hQ)
theorem cV {Z : State} {a0 : Array Value} {h : Heap} (X : Stand p l e R s m args below meth c T locs cells slots) (hx : p.tables.exec = Jvm.exec) (hZ : Z.Warmed39 s.vm) {own C : String} {index : Nat} {y z : MethodName} {bytes : ByteArray} {maxL : Nat} {ret : Option FieldType} {rm : Room} {as' : Array Value} {Q : Option Value → Heap → List Loc → Prop}
    (hown : s.vm.findClass own = some m.cls) (w1 : (Cond.methodLink own index y).before a0 Z = true) (w2 : (Cond.declares y).before a0 Z = true) (hnf : NotFace s y) (w5 : (Cond.selects C y z).before a0 Z = true) (w6 : (Cond.instanceMethod z).before a0 Z = true) (w3 : (Cond.initialized z.cls).before a0 Z = true) (w4 : (Cond.code z bytes maxL ret).before a0 Z = true)
    (hy : y.cls ≠ "java/lang/invoke/MethodHandle" ∧ y.cls ≠ "java/lang/invoke/VarHandle")
    (hM : MetFree l z (head1 [Cond.code z bytes maxL ret] rm) (fun a U => a = as' ∧ Z.Warmed39 U.vm ∧ U.heap = h) (fun _ _ _ _ _ => True) (fun _ U o U' => ∃ v L, o = .returned v ∧ Q v U'.heap L ∧ FrameEnd U o U' L rm.cells rm.slots))
    (hf : rm.frames + 1 ≤ R.frames) {W : Nat} (hl : W + (maxL + 11) + rm.locals ≤ R.locals) {pc : Nat} {ls : Array Slot} {a : Addr} {argsL rest : List Value} (E : Exa Z h a C) (hsize : ls.size = c.maxLocals) (hlen : ∀ sig, parseMethodDescriptor y.desc = some sig → argsL.length = sig.parameters.length)
    (has : (Value.ref a :: argsL).toArray = as') (hW : (rest.map fun v => v.category).sum ≤ W) (hd : decode c.code pc = .ok (.invokevirtual index, 3)) (eT : T.heap = h) (hcc : cells + rm.cells ≤ R.cells) (hss : slots + rm.slots ≤ R.slots) {P : Outcome → State → Prop}
    (k : ∀ T' L v, Stand p l e R s m args below meth c T' (locs ++ L) (cells + rm.cells) (slots + rm.slots) → Q v T'.heap L → Fin p e below (T'.setTop (mkF m (pc + 3) ls (v.toList ++ rest))) P) :
    Fin p e below (T.setTop (mkF m pc ls (argsL.reverse ++ .ref a :: rest))) P := by
  obtain ⟨cq, kq, qa, qb, qc⟩ := isOf hZ eT E
  obtain ⟨v, _, ⟨T', L', k', n'⟩, -, X', ⟨L, hQ, e1, e2, e3⟩, st⟩ := X.virtualBack hx (y := y) (z := z) hown (mvT hZ w1) (mvT hZ w2) hnf (mvT hZ w5) (mvT hZ w6) hy (backOf (W := W) hM hZ w4 w3 hf hl) qa qc (g := mkF m pc ls (argsL.reverse ++ .ref a :: rest)) rfl hsize (Steps.refl _) (argsL := argsL) (rest := rest) hlen rfl
    (by show 2 * 0 + _ ≤ _; omega) hd (fun _ _ => ⟨has, eT, hcc, hss⟩)
  dsimp only [Pt.U, Pt.locs, Pt.cells, Pt.slots] at X' e1 e2 e3 st hQ
  subst e1 e2 e3
  exact go (fun t kt => st.trans kt) (k T' L v X' hQ)
theorem newA {Z : State} {a0 : Array Value} {h : Heap} (X : Stand p l e R s m args below meth c T locs cells slots) (hx : p.tables.exec = Jvm.exec) (hZ : Z.Warmed39 s.vm) {aty : ArrayType} (w : (Cond.arrayClass (newarray.typeOf aty)).before a0 Z = true) (eT : T.heap = h)
    {pc : Nat} {ls : Array Slot} {n : Int32} {rest : List Value} (hd : decode c.code pc = .ok (.newarray aty, 2)) (hn : ¬ n < 0) (cap : Nat) (hcap : n.toNatClampNeg ≤ cap) (hb : cap * 8 ≤ 536870912) (hc : cells + 1 ≤ R.cells) (hl : slots + cap ≤ R.slots) {P : Outcome → State → Prop}
    (k : ∀ T' h' b kA, Stand p l e R s m args below meth c T' locs (cells + 1) (slots + cap) → T'.heap = h' → Ext h h' → b = h.size → Arv Z h' b kA (newarray.typeOf aty) n [] (defaultValue (newarray.typeOf aty)) → Fin p e below (T'.setTop (mkF m (pc + 2) ls (.ref b :: rest))) P) :
    Fin p e below (T.setTop (mkF m pc ls (.int n :: rest))) P := by
  obtain ⟨T', h', kA, X', e', E', A', st⟩ := newP X hx hZ w eT (g := mkF m pc ls (.int n :: rest)) rfl hd rfl hn hcap hb hc hl
  exact go st (k T' h' _ kA X' e' E' rfl (Arv.new A' hn))
theorem stI {Z : State} {h : Heap} {a : Addr} {kA : ClassId} {z : Int32} {vs : List Value} {dv : Value} (X : Stand p l e R s m args below meth c T locs cells slots) (hx : p.tables.exec = Jvm.exec) (hZ : Z.Warmed39 s.vm) (eT : T.heap = h) (V : Arv Z h a kA .int z vs dv)
    {pc : Nat} {ls : Array Slot} {j x : Int32} {rest : List Value} (hd : decode c.code pc = .ok (.iastore, 1)) (hj : ¬ j < 0 ∧ j < z) (i : Nat) (hi : j.toNatClampNeg = i) (hlen : i < vs.length) {P : Outcome → State → Prop}
    (k : ∀ T' h', Stand p l e R s m args below meth c T' (locs ++ [⟨a, j.toNatClampNeg⟩]) cells slots → T'.heap = h' → Wr h h' a j.toNatClampNeg (.int x) → Arv Z h' a kA .int z (vs.set i (.int x)) dv → Fin p e below (T'.setTop (mkF m (pc + 1) ls rest)) P) :
    Fin p e below (T.setTop (mkF m pc ls (.int x :: .int j :: .ref a :: rest))) P := by
  obtain ⟨cl, Ar, q, S, N, H, G⟩ := V
  obtain ⟨T', h', X', e', W', st⟩ := RoadKit.stI X hx hZ eT Ar (j := j) (inb_of S hj) (g := mkF m pc ls (.int x :: .int j :: .ref a :: rest)) rfl rfl hd
  exact go st (k T' h' X' e' W' (Arv.set Ar q S N H G rfl W' i hi hlen))
theorem stJ {Z : State} {h : Heap} {a : Addr} {kA : ClassId} {z : Int32} {vs : List Value} {dv : Value} (X : Stand p l e R s m args below meth c T locs cells slots) (hx : p.tables.exec = Jvm.exec) (hZ : Z.Warmed39 s.vm) (eT : T.heap = h) (V : Arv Z h a kA .long z vs dv)
    {pc : Nat} {ls : Array Slot} {j : Int32} {x : Int64} {rest : List Value} (hd : decode c.code pc = .ok (.lastore, 1)) (hj : ¬ j < 0 ∧ j < z) (i : Nat) (hi : j.toNatClampNeg = i) (hlen : i < vs.length) {P : Outcome → State → Prop}
    (k : ∀ T' h', Stand p l e R s m args below meth c T' (locs ++ [⟨a, j.toNatClampNeg⟩]) cells slots → T'.heap = h' → Wr h h' a j.toNatClampNeg (.long x) → Arv Z h' a kA .long z (vs.set i (.long x)) dv → Fin p e below (T'.setTop (mkF m (pc + 1) ls rest)) P) :
    Fin p e below (T.setTop (mkF m pc ls (.long x :: .int j :: .ref a :: rest))) P := by
  obtain ⟨cl, Ar, q, S, N, H, G⟩ := V
  obtain ⟨T', h', X', e', W', st⟩ := RoadKit.stJ X hx hZ eT Ar (j := j) (inb_of S hj) (g := mkF m pc ls (.long x :: .int j :: .ref a :: rest)) rfl rfl hd
  exact go st (k T' h' X' e' W' (Arv.set Ar q S N H G rfl W' i hi hlen))
theorem stB {Z : State} {h : Heap} {a : Addr} {kA : ClassId} {z : Int32} {vs : List Value} {dv : Value} (X : Stand p l e R s m args below meth c T locs cells slots) (hx : p.tables.exec = Jvm.exec) (hZ : Z.Warmed39 s.vm) (eT : T.heap = h) (V : Arv Z h a kA .byte z vs dv)
    {pc : Nat} {ls : Array Slot} {j x : Int32} {rest : List Value} (hd : decode c.code pc = .ok (.bastore, 1)) (hj : ¬ j < 0 ∧ j < z) (i : Nat) (hi : j.toNatClampNeg = i) (hlen : i < vs.length) {P : Outcome → State → Prop}
    (k : ∀ T' h', Stand p l e R s m args below meth c T' (locs ++ [⟨a, j.toNatClampNeg⟩]) cells slots → T'.heap = h' → Wr h h' a j.toNatClampNeg (.int (nar .byte x)) → Arv Z h' a kA .byte z (vs.set i (.int (nar .byte x))) dv → Fin p e below (T'.setTop (mkF m (pc + 1) ls rest)) P) :
    Fin p e below (T.setTop (mkF m pc ls (.int x :: .int j :: .ref a :: rest))) P := by
  obtain ⟨cl, Ar, q, S, N, H, G⟩ := V
  obtain ⟨T', h', X', e', W', st⟩ := RoadKit.stB X hx hZ eT Ar (j := j) (inb_of S hj) (g := mkF m pc ls (.int x :: .int j :: .ref a :: rest)) rfl rfl hd
  exact go st (k T' h' X' e' W' (Arv.set Ar q S N H G (fits_nar_byte _) W' i hi hlen))
theorem stC {Z : State} {h : Heap} {a : Addr} {kA : ClassId} {z : Int32} {vs : List Value} {dv : Value} (X : Stand p l e R s m args below meth c T locs cells slots) (hx : p.tables.exec = Jvm.exec) (hZ : Z.Warmed39 s.vm) (eT : T.heap = h) (V : Arv Z h a kA .char z vs dv)
    {pc : Nat} {ls : Array Slot} {j x : Int32} {rest : List Value} (hd : decode c.code pc = .ok (.castore, 1)) (hj : ¬ j < 0 ∧ j < z) (i : Nat) (hi : j.toNatClampNeg = i) (hlen : i < vs.length) {P : Outcome → State → Prop}
    (k : ∀ T' h', Stand p l e R s m args below meth c T' (locs ++ [⟨a, j.toNatClampNeg⟩]) cells slots → T'.heap = h' → Wr h h' a j.toNatClampNeg (.int (nar .char x)) → Arv Z h' a kA .char z (vs.set i (.int (nar .char x))) dv → Fin p e below (T'.setTop (mkF m (pc + 1) ls rest)) P) :
    Fin p e below (T.setTop (mkF m pc ls (.int x :: .int j :: .ref a :: rest))) P := by
  obtain ⟨cl, Ar, q, S, N, H, G⟩ := V
  obtain ⟨T', h', X', e', W', st⟩ := RoadKit.stC X hx hZ eT Ar (j := j) (inb_of S hj) (g := mkF m pc ls (.int x :: .int j :: .ref a :: rest)) rfl rfl hd
  exact go st (k T' h' X' e' W' (Arv.set Ar q S N H G (fits_nar_char _) W' i hi hlen))
theorem alen {Z : State} {h : Heap} {a : Addr} {kA : ClassId} {ty : FieldType} {z : Int32} {vs : List Value} {dv : Value} (X : Stand p l e R s m args below meth c T locs cells slots) (hx : p.tables.exec = Jvm.exec) (hZ : Z.Warmed39 s.vm) (eT : T.heap = h) (V : Arv Z h a kA ty z vs dv)
    {pc : Nat} {ls : Array Slot} {rest : List Value} (hd : decode c.code pc = .ok (.arraylength, 1)) {P : Outcome → State → Prop} (k : Fin p e below (T.setTop (mkF m (pc + 1) ls (.int z :: rest))) P) :
    Fin p e below (T.setTop (mkF m pc ls (.ref a :: rest))) P := by
  obtain ⟨cl, Ar, q, S, N, H, G⟩ := V
  refine go (fun t kt => X.arraylength hx (by rw [eT]; exact Ar.1) (State.isArrayOf_alike hZ.alike Ar.2.1) (g := mkF m pc ls (.ref a :: rest)) rfl rfl hd t kt) ?_
  rw [len_of S N]
  exact k
theorem arv_at {Z : State} {h : Heap} {a : Addr} {kA : ClassId} {ty : FieldType} {z : Int32} {vs : List Value} {dv : Value} (V : Arv Z h a kA ty z vs dv) {j : Int32} (hj : ¬ j < 0 ∧ j < z) :
    ∃ cl, Arr Z h a cl ty ∧ ¬ (j < 0 ∨ cl.slots.size ≤ j.toNatClampNeg) ∧ cl.slots[j.toNatClampNeg]? = some (vs.getD j.toNatClampNeg dv) ∧ fits ty (vs.getD j.toNatClampNeg dv) = true := by
  obtain ⟨cl, Ar, q, S, N, H, G⟩ := V
  have hin := inb_of S hj
  have hlt : j.toNatClampNeg < cl.slots.size := Nat.lt_of_not_le fun q => hin (Or.inr q)
  exact ⟨cl, Ar, hin, H _ hlt, G _ hlt⟩
theorem ldI {Z : State} {h : Heap} {a : Addr} {kA : ClassId} {z : Int32} {vs : List Value} {dv : Value} (X : Stand p l e R s m args below meth c T locs cells slots) (hx : p.tables.exec = Jvm.exec) (hZ : Z.Warmed39 s.vm) (eT : T.heap = h) (V : Arv Z h a kA .int z vs dv)
    {pc : Nat} {ls : Array Slot} {j : Int32} {rest : List Value} (hd : decode c.code pc = .ok (.iaload, 1)) (hj : ¬ j < 0 ∧ j < z) {P : Outcome → State → Prop} (k : ∀ x, vs.getD j.toNatClampNeg dv = .int x → Fin p e below (T.setTop (mkF m (pc + 1) ls (.int x :: rest))) P) :
    Fin p e below (T.setTop (mkF m pc ls (.int j :: .ref a :: rest))) P := by
  obtain ⟨cl, Ar, hin, hat, hf⟩ := arv_at V hj
  obtain ⟨x, hx'⟩ := fit_I hf (Or.inl rfl)
  refine go (fun t kt => X.iaload hx (j := j) (v := .int x) (by rw [eT]; exact Ar.1) (State.isArrayOf_alike hZ.alike Ar.2.1) Ar.2.2 hin (by rw [hat, hx']) (g := mkF m pc ls (.int j :: .ref a :: rest)) rfl rfl hd t kt) (k x hx')
theorem ldJ {Z : State} {h : Heap} {a : Addr} {kA : ClassId} {z : Int32} {vs : List Value} {dv : Value} (X : Stand p l e R s m args below meth c T locs cells slots) (hx : p.tables.exec = Jvm.exec) (hZ : Z.Warmed39 s.vm) (eT : T.heap = h) (V : Arv Z h a kA .long z vs dv)
    {pc : Nat} {ls : Array Slot} {j : Int32} {rest : List Value} (hd : decode c.code pc = .ok (.laload, 1)) (hj : ¬ j < 0 ∧ j < z) {P : Outcome → State → Prop} (k : ∀ x, vs.getD j.toNatClampNeg dv = .long x → Fin p e below (T.setTop (mkF m (pc + 1) ls (.long x :: rest))) P) :
    Fin p e below (T.setTop (mkF m pc ls (.int j :: .ref a :: rest))) P := by
  obtain ⟨cl, Ar, hin, hat, hf⟩ := arv_at V hj
  obtain ⟨x, hx'⟩ := fit_J hf
  refine go (fun t kt => X.laload hx (j := j) (v := .long x) (by rw [eT]; exact Ar.1) (State.isArrayOf_alike hZ.alike Ar.2.1) Ar.2.2 hin (by rw [hat, hx']) (g := mkF m pc ls (.int j :: .ref a :: rest)) rfl rfl hd t kt) (k x hx')
theorem ldB {Z : State} {h : Heap} {a : Addr} {kA : ClassId} {z : Int32} {vs : List Value} {dv : Value} (X : Stand p l e R s m args below meth c T locs cells slots) (hx : p.tables.exec = Jvm.exec) (hZ : Z.Warmed39 s.vm) (eT : T.heap = h) (V : Arv Z h a kA .byte z vs dv)
    {pc : Nat} {ls : Array Slot} {j : Int32} {rest : List Value} (hd : decode c.code pc = .ok (.baload, 1)) (hj : ¬ j < 0 ∧ j < z) {P : Outcome → State → Prop} (k : ∀ x, vs.getD j.toNatClampNeg dv = .int x → Fin p e below (T.setTop (mkF m (pc + 1) ls (.int x :: rest))) P) :
    Fin p e below (T.setTop (mkF m pc ls (.int j :: .ref a :: rest))) P := by
  obtain ⟨cl, Ar, hin, hat, hf⟩ := arv_at V hj
  obtain ⟨x, hx'⟩ := fit_I hf (Or.inr (Or.inr (Or.inl rfl)))
  refine go (fun t kt => X.baloadBytes hx (j := j) (v := .int x) (by rw [eT]; exact Ar.1) (State.isArrayOf_alike hZ.alike Ar.2.1) Ar.2.2 hin (by rw [hat, hx']) (g := mkF m pc ls (.int j :: .ref a :: rest)) rfl rfl hd t kt) (k x hx')
theorem ldC {Z : State} {h : Heap} {a : Addr} {kA : ClassId} {z : Int32} {vs : List Value} {dv : Value} (X : Stand p l e R s m args below meth c T locs cells slots) (hx : p.tables.exec = Jvm.exec) (hZ : Z.Warmed39 s.vm) (eT : T.heap = h) (V : Arv Z h a kA .char z vs dv)
    {pc : Nat} {ls : Array Slot} {j : Int32} {rest : List Value} (hd : decode c.code pc = .ok (.caload, 1)) (hj : ¬ j < 0 ∧ j < z) {P : Outcome → State → Prop} (k : ∀ x, vs.getD j.toNatClampNeg dv = .int x → Fin p e below (T.setTop (mkF m (pc + 1) ls (.int x :: rest))) P) :
    Fin p e below (T.setTop (mkF m pc ls (.int j :: .ref a :: rest))) P := by
  obtain ⟨cl, Ar, hin, hat, hf⟩ := arv_at V hj
  obtain ⟨x, hx'⟩ := fit_I hf (Or.inr (Or.inr (Or.inr (Or.inl rfl))))
  refine go (fun t kt => X.caload hx (j := j) (v := .int x) (by rw [eT]; exact Ar.1) (State.isArrayOf_alike hZ.alike Ar.2.1) Ar.2.2 hin (by rw [hat, hx']) (g := mkF m pc ls (.int j :: .ref a :: rest)) rfl rfl hd t kt) (k x hx')
theorem ldR {Z : State} {h : Heap} {a : Addr} {kA : ClassId} {ty : FieldType} {z : Int32} {vs : List Value} {dv : Value} (X : Stand p l e R s m args below meth c T locs cells slots) (hx : p.tables.exec = Jvm.exec) (hZ : Z.Warmed39 s.vm) (eT : T.heap = h) (V : Arv Z h a kA ty z vs dv) (ht : ty.isReference = true)
    {pc : Nat} {ls : Array Slot} {j : Int32} {rest : List Value} (hd : decode c.code pc = .ok (.aaload, 1)) (hj : ¬ j < 0 ∧ j < z) {w : Value} (hv : vs.getD j.toNatClampNeg dv = w) {P : Outcome → State → Prop} (k : Fin p e below (T.setTop (mkF m (pc + 1) ls (w :: rest))) P) :
    Fin p e below (T.setTop (mkF m pc ls (.int j :: .ref a :: rest))) P := by
  obtain ⟨cl, Ar, hin, hat, hf⟩ := arv_at V hj
  exact go (fun t kt => X.aaload hx (j := j) (v := w) (by rw [eT]; exact Ar.1) (State.isArrayOf_alike hZ.alike Ar.2.1) ht Ar.2.2 hin (by rw [hat, hv]) (g := mkF m pc ls (.int j :: .ref a :: rest)) rfl rfl hd t kt) k
theorem ldBc {Z : State} {h : Heap} {a : Addr} {cl : Cell} (X : Stand p l e R s m args below meth c T locs cells slots) (hx : p.tables.exec = Jvm.exec) (hZ : Z.Warmed39 s.vm) (eT : T.heap = h) (A : Arr Z h a cl .byte)
    {pc : Nat} {ls : Array Slot} {j x : Int32} {rest : List Value} (hd : decode c.code pc = .ok (.baload, 1)) (hin : ¬ (j < 0 ∨ cl.slots.size ≤ j.toNatClampNeg)) (hv : cl.slots[j.toNatClampNeg]? = some (.int x)) {P : Outcome → State → Prop} (k : Fin p e below (T.setTop (mkF m (pc + 1) ls (.int x :: rest))) P) :
    Fin p e below (T.setTop (mkF m pc ls (.int j :: .ref a :: rest))) P :=
  go (fun t kt => X.baloadBytes hx (j := j) (v := .int x) (by rw [eT]; exact A.1) (State.isArrayOf_alike hZ.alike A.2.1) A.2.2 hin hv (g := mkF m pc ls (.int j :: .ref a :: rest)) rfl rfl hd t kt) k
theorem alenC {Z : State} {h : Heap} {a : Addr} {cl : Cell} {ty : FieldType} {z : Int32} (X : Stand p l e R s m args below meth c T locs cells slots) (hx : p.tables.exec = Jvm.exec) (hZ : Z.Warmed39 s.vm) (eT : T.heap = h) (A : Arr Z h a cl ty) (hz : cl.slots.size.toInt32 = z)
    {pc : Nat} {ls : Array Slot} {rest : List Value} (hd : decode c.code pc = .ok (.arraylength, 1)) {P : Outcome → State → Prop} (k : Fin p e below (T.setTop (mkF m (pc + 1) ls (.int z :: rest))) P) :
    Fin p e below (T.setTop (mkF m pc ls (.ref a :: rest))) P := by
  refine go (fun t kt => X.arraylength hx (by rw [eT]; exact A.1) (State.isArrayOf_alike hZ.alike A.2.1) (g := mkF m pc ls (.ref a :: rest)) rfl rfl hd t kt) ?_
  rw [hz]
  exact k
theorem retR (X : Stand p l e R s m args below meth c T locs cells slots) (hx : p.tables.exec = Jvm.exec) (hlk : meth.locks = false) {t : FieldType} (hret : meth.sig.returnType = some t) (ht : t.isReference = true) {pc : Nat} {Ls : Array Slot} {z : Value} (hz : z.isRef = true) {rest : List Value} (hd : decode c.code pc = .ok (.areturn, 1))
    {K : Option Value → Heap → List Loc → Prop} {cc ss : Nat} (hc : cells ≤ cc) (hs : slots ≤ ss) (hk : K (some z) T.heap locs) : Fin p e below (T.setTop (mkF m pc Ls (z :: rest))) (Post s K cc ss) := by
  refine retAny X (v := some z) hlk (fun h => by rw [hret] at h; cases h) (fun fs hl => ?_) hc hs hk
  have hm' : T.vm.method? m = some meth := X.method'
  show Steps p.tables e below (T.setTop { method := m, pc := pc, locals := Ls, stack := _ :: rest, locked := none }) _
  jvm_step X.here [X.here.top, hx, hd, hm', hret, ht, hz]
  first | (intro acts; rw [hl _ acts rfl rfl rfl]) | rw [hl _ _ rfl rfl rfl]
  exact Steps.refl _
theorem cP {Z : State} {a0 : Array Value} {h : Heap} (X : Stand p l e R s m args below meth c T locs cells slots) (hx : p.tables.exec = Jvm.exec) (hZ : Z.Warmed39 s.vm) {own C : String} {index : Nat} {y y' : MethodName} {bytes : ByteArray} {maxL : Nat} {ret : Option FieldType} {rm : Room} {as' : Array Value} {Q : Option Value → Heap → List Loc → Prop}
    (hown : s.vm.findClass own = some m.cls) (w1 : (Cond.methodLink own index y).before a0 Z = true) (w2 : (Cond.instanceMethod y).before a0 Z = true) (w5 : (Cond.privateMethod y).before a0 Z = true) (w7 : (Cond.selects C y' y').before a0 Z = true) (hcl : y'.cls = y.cls) (w3 : (Cond.initialized y.cls).before a0 Z = true) (w4 : (Cond.code y bytes maxL ret).before a0 Z = true)
    (hy : y.cls ≠ "java/lang/invoke/MethodHandle" ∧ y.cls ≠ "java/lang/invoke/VarHandle")
    (hM : MetFree l y (head1 [Cond.code y bytes maxL ret] rm) (fun a U => a = as' ∧ Z.Warmed39 U.vm ∧ U.heap = h) (fun _ _ _ _ _ => True) (fun _ U o U' => ∃ v L, o = .returned v ∧ Q v U'.heap L ∧ FrameEnd U o U' L rm.cells rm.slots))
    (hf : rm.frames + 1 ≤ R.frames) {W : Nat} (hl : W + (maxL + 11) + rm.locals ≤ R.locals) {pc : Nat} {ls : Array Slot} {a : Addr} {argsL rest : List Value} {C' : String} (E : Exa Z h a C') (hsize : ls.size = c.maxLocals) (hlen : ∀ sig, parseMethodDescriptor y.desc = some sig → argsL.length = sig.parameters.length)
    (has : (Value.ref a :: argsL).toArray = as') (hW : (rest.map fun v => v.category).sum ≤ W) (hd : decode c.code pc = .ok (.invokevirtual index, 3)) (eT : T.heap = h) (hcc : cells + rm.cells ≤ R.cells) (hss : slots + rm.slots ≤ R.slots) {P : Outcome → State → Prop}
    (k : ∀ T' L v, Stand p l e R s m args below meth c T' (locs ++ L) (cells + rm.cells) (slots + rm.slots) → Q v T'.heap L → Fin p e below (T'.setTop (mkF m (pc + 3) ls (v.toList ++ rest))) P) :
    Fin p e below (T.setTop (mkF m pc ls (argsL.reverse ++ .ref a :: rest))) P := by
  have hpr : s.PrivateAt y := Cond.privateMethod_at (mvP hZ w5 (args := #[]))
  have hsel : (Cond.selects y.cls y y).before args s = true := by
    obtain ⟨c2, r2, m2, q1, q2, q3, q4, kP, hkP, hkPi⟩ := Cond.selects_spec (mvT (args := args) hZ w7)
    exact selects_self_of_private (hcl ▸ findClass_of_methodNamed q3) hkP hkPi hpr (mvT hZ w2) hy
  obtain ⟨cq, q1, q2⟩ := E.cell
  obtain ⟨v, _, ⟨T', L', k', n'⟩, -, X', ⟨L, hQ, e1, e2, e3⟩, st⟩ := X.privateBack hx (y := y) hown (mvT hZ w1) (mvT hZ w2) hsel hpr (mvT hZ w4) hy (backOf (W := W) hM hZ w4 w3 hf hl) (g := mkF m pc ls (argsL.reverse ++ .ref a :: rest)) rfl hsize (Steps.refl _) (a := a) (by rw [eT]; exact q1) q2 (argsL := argsL) (rest := rest) hlen rfl
    (by show 2 * 0 + _ ≤ _; omega) hd (fun _ _ => ⟨has, eT, hcc, hss⟩)
  dsimp only [Pt.U, Pt.locs, Pt.cells, Pt.slots] at X' e1 e2 e3 st hQ
  subst e1 e2 e3
  exact go (fun t kt => st.trans kt) (k T' L v X' hQ)
end A
section B
variable {args : Array Value} {first s : State} {o : Option Outcome} {idx : List Nat} {a b : Term}
theorem eqR {y : Addr} (h : (Cond.eq a b).value args first o s idx = some true) (hb : b.eval args first o idx s = some (.ref y)) : a.eval args first o idx s = some (.ref y) := by
  obtain ⟨x', y', h1, h2, k1, k2⟩ := cmp_v (Or.inl h)
  cases hb.symm.trans h2
  have hx : x'.isRef = true := k2.2
  rw [h1, gotT (eq_R h1 hb hx rfl) h]
theorem eqI {y : Int32} (h : (Cond.eq a b).value args first o s idx = some true) (hb : b.eval args first o idx s = some (.int y)) : a.eval args first o idx s = some (.int y) := by
  obtain ⟨x', y', h1, h2, k1, k2⟩ := cmp_v (Or.inl h)
  cases hb.symm.trans h2
  obtain ⟨z, rfl⟩ := k2
  rw [h1, gotT (Cond.eq_ints h1 hb) h]
theorem len_at {y : Int32} (h : (Term.length a).eval args first o idx s = some (.int y)) : ∃ (x : Addr) (cell : Cell), a.eval args first o idx s = some (.ref x) ∧ s.arrayAt? x = some cell ∧ cell.slots.size < 2 ^ 31 ∧ cell.slots.size.toInt32 = y := by
  obtain ⟨b, cell, h1, h2, h3, h4⟩ := Jvm.Lib.length_spec h
  exact ⟨b, cell, h1, h2, h3, (Value.int.inj h4).symm⟩
end B
end Own
namespace Jvm.Pilot.@@N@@
open Jvm Jvm.ClassFile Sem Op Lib Jvm.Free Jvm.Stand Jvm.LawKit Jvm.RoadKit Bundle Jvm.Pilot.@@N@@.Jvm.D
theorem own_s1 : Jvm.FP.Core.Small53 1 := ⟨by decide, by decide⟩
theorem own_whole {a : Int64} (h : Jvm.FP.Core.Small53 a) (h0 : 0 ≤ a.toInt) (E : Nat) (hE : E = 1074) : ∃ (c Q : Nat), Jvm.FP.Core.val64 (FP.l2d a) = .fin false c ((Q : Int) - E) ∧ c * 2 ^ Q = a.toInt.toNat * 2 ^ E := by
  obtain ⟨c, q, e⟩ := Jvm.FP.Core.l2d_shape a
  have hf := Jvm.FP.Core.val64_fits (FP.l2d a)
  have hw := Jvm.FP.Core.l2d_whole h
  have e' : Jvm.FP.Core.val64 (FP.l2d a) = .fin (decide (a.toInt < 0)) c q := e
  have hd : decide (a.toInt < 0) = false := by simp; omega
  rw [hd] at e'
  have hz := Jvm.FP.Core.whole_zval Jvm.FP.Core.good_b64 hf hw
  rw [e'] at hf hz
  have hqm : Jvm.FP.Core.b64.qmin = -(E : Int) := by rw [hE]; decide
  have hq : -(E : Int) ≤ q := by rw [← hqm]; exact hf.2.1
  refine ⟨c, (q + E).toNat, ?_, ?_⟩
  · rw [e']; congr 1; omega
  · have hz' : ((c * 2 ^ (q - Jvm.FP.Core.b64.qmin).toNat : Nat) : Int) = a.toInt * ((2 ^ (-Jvm.FP.Core.b64.qmin).toNat : Nat) : Int) := hz
    rw [hqm, show (-(-(E : Int))).toNat = E by omega] at hz'
    rw [show (q + E).toNat = (q - (-(E : Int))).toNat by omega]
    have : ((c * 2 ^ (q - (-(E : Int))).toNat : Nat) : Int) = ((a.toInt.toNat * 2 ^ E : Nat) : Int) := by
      rw [hz', Int.natCast_mul, Int.toNat_of_nonneg h0]
    exact Int.ofNat.inj this
theorem own_quot {a b : Int64} (ha : Jvm.FP.Core.Small53 a) (hb : Jvm.FP.Core.Small53 b) (a0 : 0 ≤ a.toInt) (b0 : 0 < b.toInt) (E : Nat) (hE : E = 1074) : ∃ (c Q d R : Nat), Jvm.FP.Core.val64 (FP.ddiv (FP.l2d a) (FP.l2d b)) = Jvm.FP.Core.roundRatio Jvm.FP.Core.b64 false c d ((Q : Int) - R) ∧ 0 < d ∧ c * 2 ^ Q = a.toInt.toNat * 2 ^ E ∧ d * 2 ^ R = b.toInt.toNat * 2 ^ E ∧ R ≤ 2045 := by
  obtain ⟨c, Q, e1, h1⟩ := own_whole ha a0 E hE
  obtain ⟨d, R, e2, h2⟩ := own_whole hb (by omega) E hE
  have hf := Jvm.FP.Core.val64_fits (FP.l2d b)
  rw [e2] at hf
  have hR : ((R : Int) - E) ≤ 971 := hf.2.2.1
  have hd : 0 < d := by
    rcases Nat.eq_zero_or_pos d with q | q
    · exfalso
      rw [q, Nat.zero_mul] at h2
      have : 0 < b.toInt.toNat * 2 ^ E := Nat.mul_pos (by omega) (Nat.two_pow_pos _)
      omega
    · exact q
  refine ⟨c, Q, d, R, ?_, hd, h1, h2, by omega⟩
  have hv := Jvm.FP.Core.val64_ddiv (FP.l2d a) (FP.l2d b)
  rw [e1, e2] at hv
  show Jvm.FP.Core.val64 (Jvm.FP.Core.ddiv (FP.l2d a) (FP.l2d b)) = _
  rw [hv]
  show (if d = 0 then _ else Jvm.FP.Core.roundRatio Jvm.FP.Core.b64 (false != false) c d (((Q : Int) - E) - ((R : Int) - E))) = _
  rw [if_neg (by omega)]
  congr 1
  omega
theorem own_div {a b k : Int64} (ha : Jvm.FP.Core.Small53 a) (hb : Jvm.FP.Core.Small53 b) (hk : Jvm.FP.Core.Small53 k) (k0 : 0 ≤ k.toInt) (b0 : 0 < b.toInt) (h : a.toInt = k.toInt * b.toInt) : FP.ddiv (FP.l2d a) (FP.l2d b) = FP.l2d k := by
  have a0 : 0 ≤ a.toInt := by rw [h]; exact Int.mul_nonneg k0 (by omega)
  obtain ⟨E, hE⟩ : ∃ E : Nat, E = 1074 := ⟨_, rfl⟩
  obtain ⟨c, Q, d, R, e, hd, h1, h2, hR⟩ := own_quot ha hb a0 b0 E hE
  obtain ⟨c', Q', e', h'⟩ := own_whole hk k0 E hE
  have hfit := Jvm.FP.Core.val64_fits (FP.l2d k)
  rw [e'] at hfit
  have key : c * 2 ^ (Q + E) = c' * d * 2 ^ (Q' + R) := by
    have e1 : a.toInt.toNat = k.toInt.toNat * b.toInt.toNat := by
      have : (a.toInt.toNat : Int) = ((k.toInt.toNat * b.toInt.toNat : Nat) : Int) := by
        rw [Int.natCast_mul, Int.toNat_of_nonneg a0, Int.toNat_of_nonneg k0, Int.toNat_of_nonneg (by omega), h]
      exact Int.ofNat.inj this
    rw [Nat.pow_add 2 Q E, ← Nat.mul_assoc, h1, e1]
    rw [Nat.pow_add 2 Q' R, show c' * d * (2 ^ Q' * 2 ^ R) = (c' * 2 ^ Q') * (d * 2 ^ R) by ac_rfl, h', h2]
    ac_rfl
  have hr : Jvm.FP.Core.roundRatio Jvm.FP.Core.b64 false c d ((Q : Int) - R) = .fin false c' ((Q' : Int) - E) := by
    refine Jvm.FP.Core.roundRatio_exact Jvm.FP.Core.good_b64 hd hfit ?_
    rcases Nat.le_total (Q' + R) (Q + E) with hle | hle
    · obtain ⟨n, hn⟩ := Nat.exists_eq_add_of_le hle
      rw [show ((Q : Int) - R - ((Q' : Int) - E)).toNat = n by omega, show ((Q' : Int) - E - ((Q : Int) - R)).toNat = 0 by omega, Nat.pow_zero, Nat.mul_one]
      rw [hn, Nat.pow_add 2 (Q' + R) n, Nat.mul_comm (2 ^ (Q' + R)), ← Nat.mul_assoc] at key
      exact Nat.eq_of_mul_eq_mul_right (Nat.two_pow_pos _) key
    · obtain ⟨n, hn⟩ := Nat.exists_eq_add_of_le hle
      rw [show ((Q : Int) - R - ((Q' : Int) - E)).toNat = 0 by omega, show ((Q' : Int) - E - ((Q : Int) - R)).toNat = n by omega, Nat.pow_zero, Nat.mul_one]
      rw [hn, Nat.pow_add 2 (Q + E) n, Nat.mul_comm (2 ^ (Q + E)) (2 ^ n), ← Nat.mul_assoc] at key
      exact Nat.eq_of_mul_eq_mul_right (Nat.two_pow_pos _) key
  have hv : Jvm.FP.Core.val64 (FP.l2d k) = Jvm.FP.Core.val64 (FP.ddiv (FP.l2d a) (FP.l2d b)) := by rw [e, e', hr]
  exact (Jvm.FP.Core.val64_inj (by rw [e']; simp) hv).symm
theorem own_z1 (E : Nat) (hE : E = 1074) : Jvm.FP.Core.zval Jvm.FP.Core.b64 (Jvm.FP.Core.val64 (FP.l2d 1)) = ((2 ^ E : Nat) : Int) := by
  have hz := Jvm.FP.Core.whole_zval Jvm.FP.Core.good_b64 (Jvm.FP.Core.val64_fits (FP.l2d 1)) (Jvm.FP.Core.l2d_whole own_s1)
  have hqm : (-Jvm.FP.Core.b64.qmin).toNat = E := by rw [hE]; decide
  rw [hqm, show (1 : Int64).toInt = 1 by decide, Int.one_mul] at hz
  exact hz
theorem own_qle {a b : Int64} (ha : Jvm.FP.Core.Small53 a) (hb : Jvm.FP.Core.Small53 b) (a0 : 0 ≤ a.toInt) (b0 : 0 < b.toInt) (h : a.toInt ≤ b.toInt) (E : Nat) (hE : E = 1074) : Jvm.FP.Core.val64 (FP.ddiv (FP.l2d a) (FP.l2d b)) ≠ .nan ∧ 0 ≤ Jvm.FP.Core.zval Jvm.FP.Core.b64 (Jvm.FP.Core.val64 (FP.ddiv (FP.l2d a) (FP.l2d b))) ∧ Jvm.FP.Core.zval Jvm.FP.Core.b64 (Jvm.FP.Core.val64 (FP.ddiv (FP.l2d a) (FP.l2d b))) ≤ ((2 ^ E : Nat) : Int) := by
  obtain ⟨c, Q, d, R, e, hd, h1, h2, hR⟩ := own_quot ha hb a0 b0 E hE
  rw [e]
  refine ⟨Jvm.FP.Core.roundRatio_ne_nan _ _ _ _ _, ?_⟩
  unfold Jvm.FP.Core.zval
  rw [Jvm.FP.Core.sgn_roundRatio]
  have hz1 : Jvm.FP.Core.zmag Jvm.FP.Core.b64 (Jvm.FP.Core.val64 (FP.l2d 1)) = 2 ^ E := by
    have hz := own_z1 E hE
    obtain ⟨c1, Q1, e1, -⟩ := own_whole own_s1 (by decide) E hE
    rw [e1] at hz ⊢
    exact Int.ofNat.inj hz
  obtain ⟨F, hF⟩ : ∃ F : Nat, F = 1026 := ⟨_, rfl⟩
  have hqm : Jvm.FP.Core.b64.qmin = -(E : Int) := by rw [hE]; decide
  obtain ⟨c1, Q1, e1, -⟩ := own_whole own_s1 (by decide) E hE
  have hle := Jvm.FP.Core.zmag_roundRatio_le Jvm.FP.Core.good_b64 (s := false) (A := c) (B := d) (e := (Q : Int) - R) (e0 := -((E : Int) + F)) (V := Jvm.FP.Core.val64 (FP.l2d 1)) hd (Jvm.FP.Core.val64_fits _) (by rw [e1]; simp) (by rw [hqm]; omega) (by omega) (by
    rw [hz1, hqm]
    show c * 2 ^ ((Q : Int) - R - (-((E : Int) + F))).toNat ≤ 2 ^ E * 2 ^ (-(E : Int) - (-((E : Int) + F))).toNat * d
    rw [show (-(E : Int) - (-((E : Int) + F))).toNat = F by omega, ← Nat.pow_add 2 E F]
    have hX : ((Q : Int) - R - (-((E : Int) + F))).toNat + R = (E + F) + Q := by omega
    have hab : c * 2 ^ Q ≤ d * 2 ^ R := by
      rw [h1, h2]
      exact Nat.mul_le_mul_right _ (by omega)
    refine Nat.le_of_mul_le_mul_right ?_ (Nat.two_pow_pos R)
    rw [Nat.mul_assoc, ← Nat.pow_add 2 _ R, hX, Nat.pow_add 2 (E + F) Q, Nat.mul_left_comm, Nat.mul_assoc (2 ^ (E + F)) d]
    exact Nat.mul_le_mul_left _ hab)
  rw [hz1] at hle
  generalize Jvm.FP.Core.zmag Jvm.FP.Core.b64 (Jvm.FP.Core.roundRatio Jvm.FP.Core.b64 false c d ((Q : Int) - R)) = z at hle
  show 0 ≤ ((z : Nat) : Int) ∧ ((z : Nat) : Int) ≤ _
  exact ⟨Int.natCast_nonneg _, Int.ofNat_le.mpr hle⟩
theorem own_sub {x : UInt64} (E : Nat) (hE : E = 1074) (hn : Jvm.FP.Core.val64 x ≠ .nan) (h0 : 0 ≤ Jvm.FP.Core.zval Jvm.FP.Core.b64 (Jvm.FP.Core.val64 x)) (h1 : Jvm.FP.Core.zval Jvm.FP.Core.b64 (Jvm.FP.Core.val64 x) ≤ ((2 ^ E : Nat) : Int)) :
    Jvm.FP.Core.val64 (FP.dsub (FP.l2d 1) x) ≠ .nan ∧ 0 ≤ Jvm.FP.Core.zval Jvm.FP.Core.b64 (Jvm.FP.Core.val64 (FP.dsub (FP.l2d 1) x)) := by
  have hv : Jvm.FP.Core.val64 (FP.dsub (FP.l2d 1) x) = Jvm.FP.Core.round Jvm.FP.Core.b64 (Jvm.FP.Core.exactSum (Jvm.FP.Core.val64 (FP.l2d 1)) (Jvm.FP.Core.negate (Jvm.FP.Core.val64 x))) := Jvm.FP.Core.val64_dsub (FP.l2d 1) x
  obtain ⟨c, Q, e1, -⟩ := own_whole own_s1 (by decide) E hE
  have hf1 := Jvm.FP.Core.val64_fits (FP.l2d 1)
  have hfx := Jvm.FP.Core.negate_fits (Jvm.FP.Core.val64_fits x)
  have hz1 := own_z1 E hE
  have hzn := Jvm.FP.Core.zval_negate Jvm.FP.Core.b64 (Jvm.FP.Core.val64 x)
  generalize hd : Jvm.FP.Core.val64 x = dx at *
  cases dx with
  | nan => exact absurd rfl hn
  | inf s =>
    exfalso
    have hz : Jvm.FP.Core.zval Jvm.FP.Core.b64 (.inf s) = Jvm.FP.Core.signed s (Jvm.FP.Core.b64.tails * 2 ^ (Jvm.FP.Core.b64.exps - 2)) := rfl
    rw [hz] at h0 h1
    have hbig : 2 ^ E < Jvm.FP.Core.b64.tails * 2 ^ (Jvm.FP.Core.b64.exps - 2) := by
      have ht : Jvm.FP.Core.b64.tails = 2 ^ 52 := Jvm.FP.Core.tails_b64
      have hx : Jvm.FP.Core.b64.exps - 2 = 2046 := by have := Jvm.FP.Core.exps_b64; omega
      rw [ht, ← Nat.pow_add 2 52]
      exact Nat.pow_lt_pow_right (by decide) (by omega)
    generalize Jvm.FP.Core.b64.tails * 2 ^ (Jvm.FP.Core.b64.exps - 2) = B at *
    generalize 2 ^ E = P at *
    cases s <;> simp only [Jvm.FP.Core.signed, if_true, Bool.false_eq_true, if_false] at h0 h1 <;> omega
  | fin s cx qx =>
    rw [e1] at hf1 hz1 hv
    have hneg : Jvm.FP.Core.negate (.fin s cx qx) = .fin (!s) cx qx := rfl
    rw [hneg] at hfx hzn hv
    obtain ⟨sg, n, e, he, hq, hs⟩ := Jvm.FP.Core.sum_units hf1 hfx
    rw [he] at hv
    rw [hz1, hzn] at hs
    rw [hv]
    refine ⟨Jvm.FP.Core.roundRatio_ne_nan _ _ _ _ _, ?_⟩
    have hz0 : Jvm.FP.Core.zval Jvm.FP.Core.b64 (.fin false 0 Jvm.FP.Core.b64.qmin) = 0 := by
      show ((0 * 2 ^ _ : Nat) : Int) = 0
      rw [Nat.zero_mul]; rfl
    have := Jvm.FP.Core.zval_round_ge Jvm.FP.Core.good_b64 (s := sg) (c := n) (q := e) (e0 := Jvm.FP.Core.b64.qmin) (V := .fin false 0 Jvm.FP.Core.b64.qmin) (Jvm.FP.Core.zero_fits Jvm.FP.Core.good_b64 false) (by simp) (Int.le_refl _) hq (by rw [hz0, Int.zero_mul, hs]; omega)
    rw [hz0] at this
    exact this
theorem own_nn {x : UInt64} (h : Jvm.FP.Core.val64 x ≠ .nan) : Jvm.Free.Fl.NoNaN64 x := Jvm.Free.Fl.noNaN64_no.mpr ((Jvm.FP.Core.notNaN_iff x).mpr h)
theorem own_l2dnn (a : Int64) : Jvm.Free.Fl.NoNaN64 (FP.l2d a) := nn_w rfl
theorem own_d0 : FP.dconst0 = FP.l2d 0 := by decide +kernel
theorem own_d1 : FP.dconst1 = FP.l2d 1 := by decide +kernel
theorem own_pick {x : UInt64} (hn : Jvm.FP.Core.val64 x ≠ .nan) (h0 : 0 ≤ Jvm.FP.Core.zval Jvm.FP.Core.b64 (Jvm.FP.Core.val64 x)) : cmpValue (FP.dcmp (Native.java_lang_Math.nans.pick64 true (FP.l2d 0) x) x) .l = 0 := by
  have hnz : Jvm.FP.Core.val64 (FP.l2d 0) ≠ .nan := by
    obtain ⟨c, Q, e1, -⟩ := own_whole (a := 0) ⟨by decide, by decide⟩ (by decide) 1074 rfl
    rw [e1]; simp
  have hz0 : Jvm.FP.Core.zval Jvm.FP.Core.b64 (Jvm.FP.Core.val64 (FP.l2d 0)) = 0 := by
    have hz := Jvm.FP.Core.whole_zval Jvm.FP.Core.good_b64 (Jvm.FP.Core.val64_fits (FP.l2d 0)) (Jvm.FP.Core.l2d_whole (a := 0) ⟨by decide, by decide⟩)
    rw [hz, show (0 : Int64).toInt = 0 by decide, Int.zero_mul]
  have ho : FP.dcmp (FP.l2d 0) x = some (compare 0 (Jvm.FP.Core.zval Jvm.FP.Core.b64 (Jvm.FP.Core.val64 x))) := by
    have := Jvm.FP.Core.order_zval Jvm.FP.Core.good_b64 (Jvm.FP.Core.val64_fits (FP.l2d 0)) (Jvm.FP.Core.val64_fits x) hnz hn
    rw [hz0] at this
    exact this
  unfold Native.java_lang_Math.nans.pick64
  rw [ho]
  generalize Jvm.FP.Core.zval Jvm.FP.Core.b64 (Jvm.FP.Core.val64 x) = z at h0 ho
  rcases Int.lt_or_eq_of_le h0 with h | h
  · have : compare (0 : Int) z = .lt := by simp [compare, compareOfLessAndEq, h]
    rw [this]
    exact dcmpV_self (own_nn hn) _
  · have : compare (0 : Int) z = .eq := by simp [compare, compareOfLessAndEq, ← h]
    rw [this] at ho ⊢
    have hp : (if (FP.l2d 0 >>> 63 == 1) == true then x else FP.l2d 0) = FP.l2d 0 := by
      rw [show (FP.l2d 0 >>> 63 == 1) = false by decide +kernel]; rfl
    show cmpValue (FP.dcmp (if (FP.l2d 0 >>> 63 == 1) == true then x else FP.l2d 0) x) .l = 0
    rw [hp, ho]
    rfl
theorem own_b {a : Int64} {K : Int} (h : 0 ≤ a.toInt ∧ a.toInt ≤ K) (hK : K < 9007199254740992) : B53 a := ⟨by omega, by omega⟩
theorem own_mulv {a b : Int64} {A B : Int} (ha : 0 ≤ a.toInt ∧ a.toInt ≤ A) (hb : 0 ≤ b.toInt ∧ b.toInt ≤ B) (hAB : A * B < 9223372036854775808) : (a * b).toInt = a.toInt * b.toInt ∧ 0 ≤ a.toInt * b.toInt ∧ a.toInt * b.toInt ≤ A * B := by
  have h0 : 0 ≤ a.toInt * b.toInt := Int.mul_nonneg ha.1 hb.1
  have h1 : a.toInt * b.toInt ≤ A * B := Int.mul_le_mul ha.2 hb.2 hb.1 (by omega)
  have hc := c_lmul a b
  have b1 := (a * b).toInt_lt; have b2 := (a * b).le_toInt
  generalize a.toInt * b.toInt = P at *
  exact ⟨by omega, h0, h1⟩
theorem own_addv {a b : Int64} {A B : Int} (ha : 0 ≤ a.toInt ∧ a.toInt ≤ A) (hb : 0 ≤ b.toInt ∧ b.toInt ≤ B) (hAB : A + B < 9223372036854775808) : (a + b).toInt = a.toInt + b.toInt ∧ 0 ≤ (a + b).toInt ∧ (a + b).toInt ≤ A + B := by
  have hc := c_ladd a b
  have b1 := (a + b).toInt_lt; have b2 := (a + b).le_toInt
  exact ⟨by omega, by omega, by omega⟩
theorem own_i64 {p : Int32} {K : Int} (h : 0 ≤ p.toInt ∧ p.toInt ≤ K) : 0 ≤ p.toInt64.toInt ∧ p.toInt64.toInt ≤ K := by rw [c_i2l]; exact h
theorem own_dv {xd : UInt64} {kk : Int64} {p3 : Int32} (hxd : xd = FP.l2d (kk * (p3).toInt64)) (hk : 0 ≤ kk.toInt ∧ kk.toInt ≤ 1023) (hd : 1 ≤ p3.toInt ∧ p3.toInt ≤ 1048576) : FP.ddiv xd (FP.l2d (p3).toInt64) = FP.l2d kk := by
  have hp := own_i64 (p := p3) (K := 1048576) ⟨by omega, hd.2⟩
  have hm := own_mulv hk hp (by decide)
  rw [hxd]
  refine own_div ?_ ?_ ?_ hk.1 (by rw [c_i2l]; omega) (by rw [hm.1])
  · exact ⟨by rw [hm.1]; omega, by rw [hm.1]; omega⟩
  · exact ⟨by omega, by omega⟩
  · exact ⟨by omega, by omega⟩
theorem own_mul {a b : Int64} {A B : Int} (ha : 0 ≤ a.toInt ∧ a.toInt ≤ A) (hb : 0 ≤ b.toInt ∧ b.toInt ≤ B) (hA : A < 9007199254740992) (hB : B < 9007199254740992) (hAB : A * B < 9223372036854775808) : FP.dmul (FP.l2d a) (FP.l2d b) = FP.l2d (a * b) := by
  refine dmul_k (A := A) (B := B) (by omega) ha.2 (by omega) hb.2 hA hB hAB ?_ ?_
  · rintro ⟨-, h⟩
    rw [Int64.lt_iff_toInt_lt, show (0 : Int64).toInt = 0 by decide] at h
    omega
  · rintro ⟨-, h⟩
    rw [Int64.lt_iff_toInt_lt, show (0 : Int64).toInt = 0 by decide] at h
    omega
def F_x (pn r q : Int64) : UInt64 := FP.dsub (FP.l2d 1) (FP.ddiv (FP.l2d (r * r)) (FP.l2d (pn * q)))
def F_st (pn r q : Int64) : UInt64 := if lcmpW pn (0 : Int64) = (0 : Int32) then FP.l2d 0 else if lcmpW q (0 : Int64) = (0 : Int32) then FP.l2d 1 else Native.java_lang_Math.nans.pick64 true (FP.l2d 0) (F_x pn r q)
theorem own_x {pn r q : Int64} (hp : 0 ≤ pn.toInt ∧ pn.toInt ≤ 3) (hr : 0 ≤ r.toInt ∧ r.toInt ≤ 4000) (hq : 0 ≤ q.toInt ∧ q.toInt ≤ 4000000) (hcs : r.toInt * r.toInt ≤ pn.toInt * q.toInt) (p0 : ¬ lcmpW pn (0 : Int64) = (0 : Int32)) (q0 : ¬ lcmpW q (0 : Int64) = (0 : Int32)) :
    (Jvm.FP.Core.val64 (FP.ddiv (FP.l2d (r * r)) (FP.l2d (pn * q))) ≠ .nan) ∧ Jvm.FP.Core.val64 (F_x pn r q) ≠ .nan ∧ 0 ≤ Jvm.FP.Core.zval Jvm.FP.Core.b64 (Jvm.FP.Core.val64 (F_x pn r q)) := by
  rw [lw_eq, ← Int64.toInt_inj, show (0 : Int64).toInt = 0 by decide] at p0 q0
  have h1 := own_mulv hr hr (by decide)
  have h2 := own_mulv hp hq (by decide)
  have hpos : 0 < pn.toInt * q.toInt := Int.mul_pos (by omega) (by omega)
  obtain ⟨E, hE⟩ : ∃ E : Nat, E = 1074 := ⟨_, rfl⟩
  have h3 := own_qle (a := r * r) (b := pn * q) ⟨by rw [h1.1]; omega, by rw [h1.1]; omega⟩ ⟨by rw [h2.1]; omega, by rw [h2.1]; omega⟩ (by rw [h1.1]; exact h1.2.1) (by rw [h2.1]; exact hpos) (by rw [h1.1, h2.1]; exact hcs) E hE
  have h4 := own_sub E hE h3.1 h3.2.1 h3.2.2
  exact ⟨h3.1, h4⟩
theorem own_sq (a b : Int) : 2 * (a * b) ≤ a * a + b * b := by
  have h : 0 ≤ (a - b) * (a - b) := by
    rcases Int.le_total 0 (a - b) with q | q
    · exact Int.mul_nonneg q q
    · have := Int.mul_nonneg_of_nonpos_of_nonpos q q
      exact this
  rw [Int.sub_mul, Int.mul_sub, Int.mul_sub, Int.mul_comm b a] at h
  omega
theorem own_cs2 (a b : Int) : (a + b) * (a + b) ≤ 2 * (a * a + b * b) := by
  have h := own_sq a b
  rw [Int.add_mul, Int.mul_add, Int.mul_add, Int.mul_comm b a]
  omega
theorem own_cs3 (a b c : Int) : (a + b + c) * (a + b + c) ≤ 3 * (a * a + b * b + c * c) := by
  have h := own_sq a b; have h2 := own_sq b c; have h3 := own_sq a c
  rw [Int.add_mul, Int.mul_add, Int.add_mul, Int.mul_add, Int.mul_add, Int.mul_add, Int.mul_add, Int.add_mul, Int.mul_comm b a, Int.mul_comm c a, Int.mul_comm c b]
  omega
theorem own_four (x : Int32) : (x &&& (3 : Int32)) = 0 ∨ (x &&& (3 : Int32)) = 1 ∨ (x &&& (3 : Int32)) = 2 ∨ (x &&& (3 : Int32)) = 3 := by
  have h := c_and x 3 (by decide)
  rw [show (3 : Int32).toInt = 3 by decide] at h
  simp only [← Int32.toInt_inj, show (0 : Int32).toInt = 0 by decide, show (1 : Int32).toInt = 1 by decide, show (2 : Int32).toInt = 2 by decide, show (3 : Int32).toInt = 3 by decide]
  omega
theorem own_kb (x : Int32) : 0 ≤ ((x &&& (1023 : Int32)).toInt64).toInt ∧ ((x &&& (1023 : Int32)).toInt64).toInt ≤ 1023 := by
  have h := c_and x 1023 (by decide)
  rw [show (1023 : Int32).toInt = 1023 by decide] at h
  rw [c_i2l]; exact h
theorem own_db (x : Int32) : 1 ≤ ((1 : Int32) + (x &&& (1048575 : Int32))).toInt ∧ ((1 : Int32) + (x &&& (1048575 : Int32))).toInt ≤ 1048576 := by
  have h := c_and x 1048575 (by decide)
  rw [show (1048575 : Int32).toInt = 1048575 by decide] at h
  have h1 := c_iadd 1 (x &&& 1048575)
  rw [show (1 : Int32).toInt = 1 by decide] at h1
  have b1 := ((1 : Int32) + (x &&& (1048575 : Int32))).toInt_lt; have b2 := ((1 : Int32) + (x &&& (1048575 : Int32))).le_toInt
  omega
theorem own_lit0 : 0 ≤ (0 : Int64).toInt ∧ (0 : Int64).toInt ≤ 0 := by decide
theorem d1_0 : decode prog_41_method_1_code 0 = .ok (.aload_n 0, 1) := by decide +kernel
theorem d1_1 : decode prog_41_method_1_code 1 = .ok (.invokespecial 1, 3) := by decide +kernel
theorem d1_4 : decode prog_41_method_1_code 4 = .ok (.return_, 1) := by decide +kernel
theorem pn_1 : plainName "com/example/arachne/arachne/force/StressSum" = true := by first | (simp [plainName, overriddenIn]; done) | decide +kernel
theorem ef_1 (m : MethodId) (a1 : Addr) : entryFrame m #[(.ref a1)] 1 = mkF m 0 #[.val (.ref a1)] [] := by first | (simp [entryFrame, mkF, argsToLocals, Value.category]; done) | rfl
def Q1 (Z : State) (a1 : Addr)  (h0 : Heap) (n0 : Nat) : Option Value → Heap → List Loc → Prop := fun v h L => v = none ∧ Fr n0 L ∧ h = h0
set_option maxRecDepth 65536 in
set_option maxHeartbeats 40000000 in
theorem rm1 (l : Launch) (Z : State) (a0 : Array Value) (hw : ∀ d ∈ tables_1, d.before a0 Z = true) (ws : List Jvm.Cond) (a1 : Addr)  (h0 : Heap) (n0 : Nat) (Z0 : n0 ≤ h0.size)  :
    MetFree l (⟨"com/example/arachne/arachne/force/StressSum", "<init>", "()V"⟩ : MethodName) (head1 (Jvm.Cond.code (⟨"com/example/arachne/arachne/force/StressSum", "<init>", "()V"⟩ : MethodName) prog_41_method_1_code 1 none :: ws) ({ frames := 1, cells := 0, slots := 0, locals := 12 } : Room)) (fun a U => a = #[(.ref a1)] ∧ Z.Warmed39 U.vm ∧ U.heap = h0) (fun _ _ _ _ _ => True) (fun _ U o U' => ∃ v L, o = .returned v ∧ (Q1 Z a1 h0 n0) v U'.heap L ∧ FrameEnd U o U' L ({ frames := 1, cells := 0, slots := 0, locals := 12 } : Room).cells ({ frames := 1, cells := 0, slots := 0, locals := 12 } : Room).slots) := by
  refine MetFree.of_bodySF (plainFor_of_name pn_1) hisR ?_
  intro p e s m args below meth c s₁ Bd hml0 hP hK
  obtain ⟨rfl, hZ, hh⟩ := hP
  have hx := Bd.exec
  have hby := Bd.bytes
  have hml : c.maxLocals = 1 := hml0
  have hown : s.vm.findClass "com/example/arachne/arachne/force/StressSum" = some m.cls := findClass_of_methodNamed Bd.named
  have hnm := (name_of_methodNamed Bd.named Bd.method).1
  have X0 : Stand p l e ({ frames := 1, cells := 0, slots := 0, locals := 12 } : Room) s m #[(.ref a1)] below meth c s₁ [] 0 0 := Stand.of_body Bd
  have e0 : s₁.heap = h0 := by rw [← hh, Bd.state]; rfl
  have N0 := Fr.nil n0
  show Own.Fin p e below _ (Own.Post s (Q1 Z a1 h0 n0) ({ frames := 1, cells := 0, slots := 0, locals := 12 } : Room).cells ({ frames := 1, cells := 0, slots := 0, locals := 12 } : Room).slots)
  refine Own.start (ef_1 m a1) ?_
  show Own.Fin p e below (s₁.setTop (mkF m 0 #[.val (.ref a1)] [])) _
  refine Own.go (fun t k => XS.aloadN X0.here hx rfl (hb hby d1_0) rfl rfl k) ?_
  show Own.Fin p e below (s₁.setTop (mkF m 1 #[.val (.ref a1)] [(.ref a1)])) _
  obtain ⟨T1, X1, e1, st1⟩ := initO X0 hx hZ hown (hw _ (List.mem_of_getElem? (i := 7) rfl)) (hw _ (List.mem_of_getElem? (i := 8) rfl)) (hw _ (List.mem_of_getElem? (i := 9) rfl)) e0 (g := (mkF m 1 #[.val (.ref a1)] [(.ref a1)])) rfl (by rw [hml]; rfl) rfl (hb hby d1_1) (by decide) (W := 0) (by show 2 * 0 + _ ≤ _; exact Nat.le_of_eq rfl) (by decide)
  refine Own.go st1 ?_
  show Own.Fin p e below (T1.setTop (mkF m 4 #[.val (.ref a1)] [])) _
  refine Own.retV X1 hx Bd.notSynchronized Bd.returns (hb hby d1_4) (by decide) (by decide) ?_
  exact ⟨rfl, N0, e1⟩
theorem d4_0 : decode prog_41_method_2_code 0 = .ok (.dload_n 1, 1) := by decide +kernel
theorem d4_1 : decode prog_41_method_2_code 1 = .ok (.iload_n 3, 1) := by decide +kernel
theorem d4_2 : decode prog_41_method_2_code 2 = .ok (.i2d, 1) := by decide +kernel
theorem d4_3 : decode prog_41_method_2_code 3 = .ok (.ddiv, 1) := by decide +kernel
theorem d4_4 : decode prog_41_method_2_code 4 = .ok (.dstore 4, 2) := by decide +kernel
theorem d4_6 : decode prog_41_method_2_code 6 = .ok (.aload_n 0, 1) := by decide +kernel
theorem d4_7 : decode prog_41_method_2_code 7 = .ok (.dup, 1) := by decide +kernel
theorem d4_8 : decode prog_41_method_2_code 8 = .ok (.getfield 7, 3) := by decide +kernel
theorem d4_11 : decode prog_41_method_2_code 11 = .ok (.lconst 1, 1) := by decide +kernel
theorem d4_12 : decode prog_41_method_2_code 12 = .ok (.ladd, 1) := by decide +kernel
theorem d4_13 : decode prog_41_method_2_code 13 = .ok (.putfield 7, 3) := by decide +kernel
theorem d4_16 : decode prog_41_method_2_code 16 = .ok (.aload_n 0, 1) := by decide +kernel
theorem d4_17 : decode prog_41_method_2_code 17 = .ok (.dup, 1) := by decide +kernel
theorem d4_18 : decode prog_41_method_2_code 18 = .ok (.getfield 13, 3) := by decide +kernel
theorem d4_21 : decode prog_41_method_2_code 21 = .ok (.dload 4, 2) := by decide +kernel
theorem d4_23 : decode prog_41_method_2_code 23 = .ok (.dadd, 1) := by decide +kernel
theorem d4_24 : decode prog_41_method_2_code 24 = .ok (.putfield 13, 3) := by decide +kernel
theorem d4_27 : decode prog_41_method_2_code 27 = .ok (.aload_n 0, 1) := by decide +kernel
theorem d4_28 : decode prog_41_method_2_code 28 = .ok (.dup, 1) := by decide +kernel
theorem d4_29 : decode prog_41_method_2_code 29 = .ok (.getfield 17, 3) := by decide +kernel
theorem d4_32 : decode prog_41_method_2_code 32 = .ok (.dload 4, 2) := by decide +kernel
theorem d4_34 : decode prog_41_method_2_code 34 = .ok (.dload 4, 2) := by decide +kernel
theorem d4_36 : decode prog_41_method_2_code 36 = .ok (.dmul, 1) := by decide +kernel
theorem d4_37 : decode prog_41_method_2_code 37 = .ok (.dadd, 1) := by decide +kernel
theorem d4_38 : decode prog_41_method_2_code 38 = .ok (.putfield 17, 3) := by decide +kernel
theorem d4_41 : decode prog_41_method_2_code 41 = .ok (.return_, 1) := by decide +kernel
theorem pn_4 : plainName "com/example/arachne/arachne/force/StressSum" = true := by first | (simp [plainName, overriddenIn]; done) | decide +kernel
theorem ef_4 (m : MethodId) (a1 : Addr) (xd : UInt64) (p3 : Int32) : entryFrame m #[(.ref a1), (.double xd), (.int p3)] 6 = mkF m 0 #[.val (.ref a1), .val (.double xd), .second, .val (.int p3), .unset, .unset] [] := by first | (simp [entryFrame, mkF, argsToLocals, Value.category]; done) | rfl
def Q4 (Z : State) (a1 : Addr) (xd : UInt64) (p3 : Int32) (kk pn r q : Int64) (h0 : Heap) (n0 : Nat) : Option Value → Heap → List Loc → Prop := fun v h L => v = none ∧ Fr n0 L ∧ Keep h0 h [a1] ∧ Fld Z h a1 "com/example/arachne/arachne/force/StressSum" "pairs" "J" (.long (pn + (1 : Int64))) ∧ Fld Z h a1 "com/example/arachne/arachne/force/StressSum" "ratios" "D" (.double (FP.l2d (r + kk))) ∧ Fld Z h a1 "com/example/arachne/arachne/force/StressSum" "squares" "D" (.double (FP.l2d (q + (kk * kk))))
set_option maxRecDepth 65536 in
set_option maxHeartbeats 40000000 in
theorem rm4 (l : Launch) (Z : State) (a0 : Array Value) (hw : ∀ d ∈ tables_1, d.before a0 Z = true) (ws : List Jvm.Cond) (a1 : Addr) (xd : UInt64) (p3 : Int32) (kk pn r q : Int64) (h0 : Heap) (n0 : Nat) (Z0 : n0 ≤ h0.size) (EA : Exa Z h0 a1 "com/example/arachne/arachne/force/StressSum") (FP_ : Fld Z h0 a1 "com/example/arachne/arachne/force/StressSum" "pairs" "J" (.long pn)) (FR : Fld Z h0 a1 "com/example/arachne/arachne/force/StressSum" "ratios" "D" (.double (FP.l2d r))) (FS : Fld Z h0 a1 "com/example/arachne/arachne/force/StressSum" "squares" "D" (.double (FP.l2d q))) (ga : n0 ≤ a1) (hxd : xd = FP.l2d (kk * (p3).toInt64)) (hk : 0 ≤ kk.toInt ∧ kk.toInt ≤ 1023) (hd : 1 ≤ p3.toInt ∧ p3.toInt ≤ 1048576) (hr : 0 ≤ r.toInt ∧ r.toInt ≤ 4000) (hq : 0 ≤ q.toInt ∧ q.toInt ≤ 4000000) :
    MetFree l (⟨"com/example/arachne/arachne/force/StressSum", "add", "(DI)V"⟩ : MethodName) (head1 (Jvm.Cond.code (⟨"com/example/arachne/arachne/force/StressSum", "add", "(DI)V"⟩ : MethodName) prog_41_method_2_code 6 none :: ws) ({ frames := 0, cells := 0, slots := 0, locals := 0 } : Room)) (fun a U => a = #[(.ref a1), (.double xd), (.int p3)] ∧ Z.Warmed39 U.vm ∧ U.heap = h0) (fun _ _ _ _ _ => True) (fun _ U o U' => ∃ v L, o = .returned v ∧ (Q4 Z a1 xd p3 kk pn r q h0 n0) v U'.heap L ∧ FrameEnd U o U' L ({ frames := 0, cells := 0, slots := 0, locals := 0 } : Room).cells ({ frames := 0, cells := 0, slots := 0, locals := 0 } : Room).slots) := by
  refine MetFree.of_bodySF (plainFor_of_name pn_4) hisR ?_
  intro p e s m args below meth c s₁ Bd hml0 hP hK
  obtain ⟨rfl, hZ, hh⟩ := hP
  have hx := Bd.exec
  have hby := Bd.bytes
  have hml : c.maxLocals = 6 := hml0
  have hown : s.vm.findClass "com/example/arachne/arachne/force/StressSum" = some m.cls := findClass_of_methodNamed Bd.named
  have hnm := (name_of_methodNamed Bd.named Bd.method).1
  have X0 : Stand p l e ({ frames := 0, cells := 0, slots := 0, locals := 0 } : Room) s m #[(.ref a1), (.double xd), (.int p3)] below meth c s₁ [] 0 0 := Stand.of_body Bd
  have e0 : s₁.heap = h0 := by rw [← hh, Bd.state]; rfl
  have N0 := Fr.nil n0
  show Own.Fin p e below _ (Own.Post s (Q4 Z a1 xd p3 kk pn r q h0 n0) ({ frames := 0, cells := 0, slots := 0, locals := 0 } : Room).cells ({ frames := 0, cells := 0, slots := 0, locals := 0 } : Room).slots)
  refine Own.start (ef_4 m a1 xd p3) ?_
  show Own.Fin p e below (s₁.setTop (mkF m 0 #[.val (.ref a1), .val (.double xd), .second, .val (.int p3), .unset, .unset] [])) _
  have hkk : B53 (kk * kk) := own_b (K := 1023 * 1023) (by have hm := own_mulv hk hk (by decide); rw [hm.1]; exact hm.2) (by decide)
  refine Own.go (fun t k => XS.dloadN X0.here hx rfl (hb hby d4_0) rfl k) ?_
  show Own.Fin p e below (s₁.setTop (mkF m 1 #[.val (.ref a1), .val (.double xd), .second, .val (.int p3), .unset, .unset] [(.double xd)])) _
  refine Own.go (fun t k => XS.iloadN X0.here hx rfl (hb hby d4_1) rfl k) ?_
  show Own.Fin p e below (s₁.setTop (mkF m 2 #[.val (.ref a1), .val (.double xd), .second, .val (.int p3), .unset, .unset] [(.int p3), (.double xd)])) _
  refine Own.go (fun t k => XS.i2dS X0.here hx rfl (hb hby d4_2) rfl (i2d_w _) k) ?_
  show Own.Fin p e below (s₁.setTop (mkF m 3 #[.val (.ref a1), .val (.double xd), .second, .val (.int p3), .unset, .unset] [(.double (FP.l2d (p3).toInt64)), (.double xd)])) _
  refine Own.go (fun t k => XS.ddivS X0.here hx rfl (hb hby d4_3) rfl (by rw [own_dv hxd hk hd]; exact own_l2dnn _) (own_dv hxd hk hd) k) ?_
  show Own.Fin p e below (s₁.setTop (mkF m 4 #[.val (.ref a1), .val (.double xd), .second, .val (.int p3), .unset, .unset] [(.double (FP.l2d kk))])) _
  refine Own.go (fun t k => XS.dstore X0.here hx rfl (hb hby d4_4) rfl (l' := #[.val (.ref a1), .val (.double xd), .second, .val (.int p3), .val (.double (FP.l2d kk)), .second]) rfl k) ?_
  show Own.Fin p e below (s₁.setTop (mkF m 6 #[.val (.ref a1), .val (.double xd), .second, .val (.int p3), .val (.double (FP.l2d kk)), .second] [])) _
  refine Own.go (fun t k => XS.aloadN X0.here hx rfl (hb hby d4_6) rfl rfl k) ?_
  show Own.Fin p e below (s₁.setTop (mkF m 7 #[.val (.ref a1), .val (.double xd), .second, .val (.int p3), .val (.double (FP.l2d kk)), .second] [(.ref a1)])) _
  refine Own.go (fun t k => XS.dup X0.here hx rfl (hb hby d4_7) rfl rfl k) ?_
  show Own.Fin p e below (s₁.setTop (mkF m 8 #[.val (.ref a1), .val (.double xd), .second, .val (.int p3), .val (.double (FP.l2d kk)), .second] [(.ref a1), (.ref a1)])) _
  obtain ⟨T1, X1, e1, st1⟩ := getF X0 hx hZ hown (host := "") (Or.inl (hw _ (List.mem_of_getElem? (i := 15) rfl))) Via.refl e0 FP_ (g := (mkF m 8 #[.val (.ref a1), .val (.double xd), .second, .val (.int p3), .val (.double (FP.l2d kk)), .second] [(.ref a1), (.ref a1)])) rfl rfl (hb hby d4_8)
  refine Own.go st1 ?_
  show Own.Fin p e below (T1.setTop (mkF m 11 #[.val (.ref a1), .val (.double xd), .second, .val (.int p3), .val (.double (FP.l2d kk)), .second] [(.long pn), (.ref a1)])) _
  refine Own.go (fun t k => XS.lconst X1.here hx rfl (hb hby d4_11) k) ?_
  show Own.Fin p e below (T1.setTop (mkF m 12 #[.val (.ref a1), .val (.double xd), .second, .val (.int p3), .val (.double (FP.l2d kk)), .second] [(.long (1 : Int64)), (.long pn), (.ref a1)])) _
  refine Own.go (fun t k => XS.ladd X1.here hx rfl (hb hby d4_12) rfl k) ?_
  show Own.Fin p e below (T1.setTop (mkF m 13 #[.val (.ref a1), .val (.double xd), .second, .val (.int p3), .val (.double (FP.l2d kk)), .second] [(.long (pn + (1 : Int64))), (.ref a1)])) _
  obtain ⟨T2, h2, X2, e2, W2, st2⟩ := putF X1 hx hZ hown (host := "") (Or.inl (hw _ (List.mem_of_getElem? (i := 15) rfl))) Via.refl e1 FP_ EA (Or.inl (hw _ (List.mem_of_getElem? (i := 16) rfl))) (hw _ (List.mem_of_getElem? (i := 2) rfl)) (ty := .long) (by decide) rfl rfl (g := (mkF m 13 #[.val (.ref a1), .val (.double xd), .second, .val (.int p3), .val (.double (FP.l2d kk)), .second] [(.long (pn + (1 : Int64))), (.ref a1)])) rfl rfl (hb hby d4_13)
  refine Own.go st2 ?_
  have f3 := FP_.same W2
  have N2 := Fr.snoc X2 N0 ga
  have Z2 : n0 ≤ h2.size := by rw [W2.size]; exact Z0
  have f4 := EA.wr W2
  have f5 := FR.other W2 (Or.inr (slot_ne (Or.inl (hw _ (List.mem_of_getElem? (i := 23) rfl))) (Or.inl (hw _ (List.mem_of_getElem? (i := 16) rfl))) (by decide) (t := .double) (t' := .long) (by decide) (by decide)))
  have f6 := FS.other W2 (Or.inr (slot_ne (Or.inl (hw _ (List.mem_of_getElem? (i := 25) rfl))) (Or.inl (hw _ (List.mem_of_getElem? (i := 16) rfl))) (by decide) (t := .double) (t' := .long) (by decide) (by decide)))
  have K2 := (Keep.refl h0 [a1]).wr W2 (Or.inl (List.mem_cons_self ..))
  show Own.Fin p e below (T2.setTop (mkF m 16 #[.val (.ref a1), .val (.double xd), .second, .val (.int p3), .val (.double (FP.l2d kk)), .second] [])) _
  refine Own.go (fun t k => XS.aloadN X2.here hx rfl (hb hby d4_16) rfl rfl k) ?_
  show Own.Fin p e below (T2.setTop (mkF m 17 #[.val (.ref a1), .val (.double xd), .second, .val (.int p3), .val (.double (FP.l2d kk)), .second] [(.ref a1)])) _
  refine Own.go (fun t k => XS.dup X2.here hx rfl (hb hby d4_17) rfl rfl k) ?_
  show Own.Fin p e below (T2.setTop (mkF m 18 #[.val (.ref a1), .val (.double xd), .second, .val (.int p3), .val (.double (FP.l2d kk)), .second] [(.ref a1), (.ref a1)])) _
  obtain ⟨T7, X7, e7, st7⟩ := getF X2 hx hZ hown (host := "") (Or.inl (hw _ (List.mem_of_getElem? (i := 22) rfl))) Via.refl e2 f5 (g := (mkF m 18 #[.val (.ref a1), .val (.double xd), .second, .val (.int p3), .val (.double (FP.l2d kk)), .second] [(.ref a1), (.ref a1)])) rfl rfl (hb hby d4_18)
  refine Own.go st7 ?_
  show Own.Fin p e below (T7.setTop (mkF m 21 #[.val (.ref a1), .val (.double xd), .second, .val (.int p3), .val (.double (FP.l2d kk)), .second] [(.double (FP.l2d r)), (.ref a1)])) _
  refine Own.go (fun t k => XS.dload X7.here hx rfl (hb hby d4_21) rfl k) ?_
  show Own.Fin p e below (T7.setTop (mkF m 23 #[.val (.ref a1), .val (.double xd), .second, .val (.int p3), .val (.double (FP.l2d kk)), .second] [(.double (FP.l2d kk)), (.double (FP.l2d r)), (.ref a1)])) _
  refine Own.go (fun t k => XS.daddS X7.here hx rfl (hb hby d4_23) rfl (by rw [dadd_w (own_b hr (by decide)) (own_b hk (by decide))]; exact own_l2dnn _) (dadd_w (own_b hr (by decide)) (own_b hk (by decide))) k) ?_
  show Own.Fin p e below (T7.setTop (mkF m 24 #[.val (.ref a1), .val (.double xd), .second, .val (.int p3), .val (.double (FP.l2d kk)), .second] [(.double (FP.l2d (r + kk))), (.ref a1)])) _
  obtain ⟨T8, h8, X8, e8, W8, st8⟩ := putF X7 hx hZ hown (host := "") (Or.inl (hw _ (List.mem_of_getElem? (i := 22) rfl))) Via.refl e7 f5 f4 (Or.inl (hw _ (List.mem_of_getElem? (i := 23) rfl))) (hw _ (List.mem_of_getElem? (i := 2) rfl)) (ty := .double) (by decide) rfl rfl (g := (mkF m 24 #[.val (.ref a1), .val (.double xd), .second, .val (.int p3), .val (.double (FP.l2d kk)), .second] [(.double (FP.l2d (r + kk))), (.ref a1)])) rfl rfl (hb hby d4_24)
  refine Own.go st8 ?_
  have f9 := f5.same W8
  have N8 := Fr.snoc X8 N2 ga
  have Z8 : n0 ≤ h8.size := by rw [W8.size]; exact Z2
  have f10 := f4.wr W8
  have f11 := f3.other W8 (Or.inr (slot_ne (Or.inl (hw _ (List.mem_of_getElem? (i := 16) rfl))) (Or.inl (hw _ (List.mem_of_getElem? (i := 23) rfl))) (by decide) (t := .long) (t' := .double) (by decide) (by decide)))
  have f12 := f6.other W8 (Or.inr (slot_ne (Or.inl (hw _ (List.mem_of_getElem? (i := 25) rfl))) (Or.inl (hw _ (List.mem_of_getElem? (i := 23) rfl))) (by decide) (t := .double) (t' := .double) (by decide) (by decide)))
  have K8 := K2.wr W8 (Or.inl (List.mem_cons_self ..))
  show Own.Fin p e below (T8.setTop (mkF m 27 #[.val (.ref a1), .val (.double xd), .second, .val (.int p3), .val (.double (FP.l2d kk)), .second] [])) _
  refine Own.go (fun t k => XS.aloadN X8.here hx rfl (hb hby d4_27) rfl rfl k) ?_
  show Own.Fin p e below (T8.setTop (mkF m 28 #[.val (.ref a1), .val (.double xd), .second, .val (.int p3), .val (.double (FP.l2d kk)), .second] [(.ref a1)])) _
  refine Own.go (fun t k => XS.dup X8.here hx rfl (hb hby d4_28) rfl rfl k) ?_
  show Own.Fin p e below (T8.setTop (mkF m 29 #[.val (.ref a1), .val (.double xd), .second, .val (.int p3), .val (.double (FP.l2d kk)), .second] [(.ref a1), (.ref a1)])) _
  obtain ⟨T13, X13, e13, st13⟩ := getF X8 hx hZ hown (host := "") (Or.inl (hw _ (List.mem_of_getElem? (i := 24) rfl))) Via.refl e8 f12 (g := (mkF m 29 #[.val (.ref a1), .val (.double xd), .second, .val (.int p3), .val (.double (FP.l2d kk)), .second] [(.ref a1), (.ref a1)])) rfl rfl (hb hby d4_29)
  refine Own.go st13 ?_
  show Own.Fin p e below (T13.setTop (mkF m 32 #[.val (.ref a1), .val (.double xd), .second, .val (.int p3), .val (.double (FP.l2d kk)), .second] [(.double (FP.l2d q)), (.ref a1)])) _
  refine Own.go (fun t k => XS.dload X13.here hx rfl (hb hby d4_32) rfl k) ?_
  show Own.Fin p e below (T13.setTop (mkF m 34 #[.val (.ref a1), .val (.double xd), .second, .val (.int p3), .val (.double (FP.l2d kk)), .second] [(.double (FP.l2d kk)), (.double (FP.l2d q)), (.ref a1)])) _
  refine Own.go (fun t k => XS.dload X13.here hx rfl (hb hby d4_34) rfl k) ?_
  show Own.Fin p e below (T13.setTop (mkF m 36 #[.val (.ref a1), .val (.double xd), .second, .val (.int p3), .val (.double (FP.l2d kk)), .second] [(.double (FP.l2d kk)), (.double (FP.l2d kk)), (.double (FP.l2d q)), (.ref a1)])) _
  refine Own.go (fun t k => XS.dmulS X13.here hx rfl (hb hby d4_36) rfl (by rw [own_mul hk hk (by decide) (by decide) (by decide)]; exact own_l2dnn _) (own_mul hk hk (by decide) (by decide) (by decide)) k) ?_
  show Own.Fin p e below (T13.setTop (mkF m 37 #[.val (.ref a1), .val (.double xd), .second, .val (.int p3), .val (.double (FP.l2d kk)), .second] [(.double (FP.l2d (kk * kk))), (.double (FP.l2d q)), (.ref a1)])) _
  refine Own.go (fun t k => XS.daddS X13.here hx rfl (hb hby d4_37) rfl (by rw [dadd_w (own_b hq (by decide)) hkk]; exact own_l2dnn _) (dadd_w (own_b hq (by decide)) hkk) k) ?_
  show Own.Fin p e below (T13.setTop (mkF m 38 #[.val (.ref a1), .val (.double xd), .second, .val (.int p3), .val (.double (FP.l2d kk)), .second] [(.double (FP.l2d (q + (kk * kk)))), (.ref a1)])) _
  obtain ⟨T14, h14, X14, e14, W14, st14⟩ := putF X13 hx hZ hown (host := "") (Or.inl (hw _ (List.mem_of_getElem? (i := 24) rfl))) Via.refl e13 f12 f10 (Or.inl (hw _ (List.mem_of_getElem? (i := 25) rfl))) (hw _ (List.mem_of_getElem? (i := 2) rfl)) (ty := .double) (by decide) rfl rfl (g := (mkF m 38 #[.val (.ref a1), .val (.double xd), .second, .val (.int p3), .val (.double (FP.l2d kk)), .second] [(.double (FP.l2d (q + (kk * kk)))), (.ref a1)])) rfl rfl (hb hby d4_38)
  refine Own.go st14 ?_
  have f15 := f12.same W14
  have N14 := Fr.snoc X14 N8 ga
  have Z14 : n0 ≤ h14.size := by rw [W14.size]; exact Z8
  have f16 := f10.wr W14
  have f17 := f11.other W14 (Or.inr (slot_ne (Or.inl (hw _ (List.mem_of_getElem? (i := 16) rfl))) (Or.inl (hw _ (List.mem_of_getElem? (i := 25) rfl))) (by decide) (t := .long) (t' := .double) (by decide) (by decide)))
  have f18 := f9.other W14 (Or.inr (slot_ne (Or.inl (hw _ (List.mem_of_getElem? (i := 23) rfl))) (Or.inl (hw _ (List.mem_of_getElem? (i := 25) rfl))) (by decide) (t := .double) (t' := .double) (by decide) (by decide)))
  have K14 := K8.wr W14 (Or.inl (List.mem_cons_self ..))
  show Own.Fin p e below (T14.setTop (mkF m 41 #[.val (.ref a1), .val (.double xd), .second, .val (.int p3), .val (.double (FP.l2d kk)), .second] [])) _
  refine Own.retV X14 hx Bd.notSynchronized Bd.returns (hb hby d4_41) (by decide) (by decide) ?_
  rw [e14]; exact ⟨rfl, N14, K14, f17, f18, f15⟩
theorem own_maxc : jdk_29_method_68_code = Jvm.Free.Fl.Abs.maxDCode := by decide +kernel
theorem d3_0 : decode prog_41_method_3_code 0 = .ok (.aload_n 0, 1) := by decide +kernel
theorem d3_1 : decode prog_41_method_3_code 1 = .ok (.getfield 7, 3) := by decide +kernel
theorem d3_4 : decode prog_41_method_3_code 4 = .ok (.lconst 0, 1) := by decide +kernel
theorem d3_5 : decode prog_41_method_3_code 5 = .ok (.lcmp, 1) := by decide +kernel
theorem d3_6 : decode prog_41_method_3_code 6 = .ok (.ifCond .ne 8, 3) := by decide +kernel
theorem d3_9 : decode prog_41_method_3_code 9 = .ok (.dconst 0, 1) := by decide +kernel
theorem d3_10 : decode prog_41_method_3_code 10 = .ok (.dstore_n 1, 1) := by decide +kernel
theorem d3_11 : decode prog_41_method_3_code 11 = .ok (.goto 44, 3) := by decide +kernel
theorem d3_14 : decode prog_41_method_3_code 14 = .ok (.aload_n 0, 1) := by decide +kernel
theorem d3_15 : decode prog_41_method_3_code 15 = .ok (.getfield 17, 3) := by decide +kernel
theorem d3_18 : decode prog_41_method_3_code 18 = .ok (.dconst 0, 1) := by decide +kernel
theorem d3_19 : decode prog_41_method_3_code 19 = .ok (.dcmp .l, 1) := by decide +kernel
theorem d3_20 : decode prog_41_method_3_code 20 = .ok (.ifCond .ne 8, 3) := by decide +kernel
theorem d3_23 : decode prog_41_method_3_code 23 = .ok (.dconst 1, 1) := by decide +kernel
theorem d3_24 : decode prog_41_method_3_code 24 = .ok (.dstore_n 1, 1) := by decide +kernel
theorem d3_25 : decode prog_41_method_3_code 25 = .ok (.goto 30, 3) := by decide +kernel
theorem d3_28 : decode prog_41_method_3_code 28 = .ok (.dconst 0, 1) := by decide +kernel
theorem d3_29 : decode prog_41_method_3_code 29 = .ok (.dconst 1, 1) := by decide +kernel
theorem d3_30 : decode prog_41_method_3_code 30 = .ok (.aload_n 0, 1) := by decide +kernel
theorem d3_31 : decode prog_41_method_3_code 31 = .ok (.getfield 13, 3) := by decide +kernel
theorem d3_34 : decode prog_41_method_3_code 34 = .ok (.aload_n 0, 1) := by decide +kernel
theorem d3_35 : decode prog_41_method_3_code 35 = .ok (.getfield 13, 3) := by decide +kernel
theorem d3_38 : decode prog_41_method_3_code 38 = .ok (.dmul, 1) := by decide +kernel
theorem d3_39 : decode prog_41_method_3_code 39 = .ok (.aload_n 0, 1) := by decide +kernel
theorem d3_40 : decode prog_41_method_3_code 40 = .ok (.getfield 7, 3) := by decide +kernel
theorem d3_43 : decode prog_41_method_3_code 43 = .ok (.l2d, 1) := by decide +kernel
theorem d3_44 : decode prog_41_method_3_code 44 = .ok (.aload_n 0, 1) := by decide +kernel
theorem d3_45 : decode prog_41_method_3_code 45 = .ok (.getfield 17, 3) := by decide +kernel
theorem d3_48 : decode prog_41_method_3_code 48 = .ok (.dmul, 1) := by decide +kernel
theorem d3_49 : decode prog_41_method_3_code 49 = .ok (.ddiv, 1) := by decide +kernel
theorem d3_50 : decode prog_41_method_3_code 50 = .ok (.dsub, 1) := by decide +kernel
theorem d3_51 : decode prog_41_method_3_code 51 = .ok (.invokestatic 20, 3) := by decide +kernel
theorem d3_54 : decode prog_41_method_3_code 54 = .ok (.dstore_n 1, 1) := by decide +kernel
theorem d3_55 : decode prog_41_method_3_code 55 = .ok (.dload_n 1, 1) := by decide +kernel
theorem d3_56 : decode prog_41_method_3_code 56 = .ok (.dreturn, 1) := by decide +kernel
theorem pd_0 : parseMethodDescriptor "(DD)D" = some ⟨[.double, .double], some .double⟩ := by decide +kernel
theorem pn_3 : plainName "com/example/arachne/arachne/force/StressSum" = true := by first | (simp [plainName, overriddenIn]; done) | decide +kernel
theorem ef_3 (m : MethodId) (a1 : Addr) : entryFrame m #[(.ref a1)] 3 = mkF m 0 #[.val (.ref a1), .unset, .unset] [] := by first | (simp [entryFrame, mkF, argsToLocals, Value.category]; done) | rfl
def Q3 (Z : State) (a1 : Addr) (pn r q : Int64) (h0 : Heap) (n0 : Nat) : Option Value → Heap → List Loc → Prop := fun v h L => v = some (.double (F_st pn r q)) ∧ Fr n0 L ∧ h = h0
set_option maxRecDepth 65536 in
set_option maxHeartbeats 40000000 in
theorem rm3 (l : Launch) (Z : State) (a0 : Array Value) (hw : ∀ d ∈ tables_1, d.before a0 Z = true) (ws : List Jvm.Cond) (a1 : Addr) (pn r q : Int64) (h0 : Heap) (n0 : Nat) (Z0 : n0 ≤ h0.size) (FP_ : Fld Z h0 a1 "com/example/arachne/arachne/force/StressSum" "pairs" "J" (.long pn)) (FR : Fld Z h0 a1 "com/example/arachne/arachne/force/StressSum" "ratios" "D" (.double (FP.l2d r))) (FS : Fld Z h0 a1 "com/example/arachne/arachne/force/StressSum" "squares" "D" (.double (FP.l2d q))) (hp : 0 ≤ pn.toInt ∧ pn.toInt ≤ 3) (hr : 0 ≤ r.toInt ∧ r.toInt ≤ 4000) (hq : 0 ≤ q.toInt ∧ q.toInt ≤ 4000000) (hcs : r.toInt * r.toInt ≤ pn.toInt * q.toInt) :
    MetFree l (⟨"com/example/arachne/arachne/force/StressSum", "stress", "()D"⟩ : MethodName) (head1 (Jvm.Cond.code (⟨"com/example/arachne/arachne/force/StressSum", "stress", "()D"⟩ : MethodName) prog_41_method_3_code 3 (some .double) :: ws) ({ frames := 1, cells := 0, slots := 0, locals := 15 } : Room)) (fun a U => a = #[(.ref a1)] ∧ Z.Warmed39 U.vm ∧ U.heap = h0) (fun _ _ _ _ _ => True) (fun _ U o U' => ∃ v L, o = .returned v ∧ (Q3 Z a1 pn r q h0 n0) v U'.heap L ∧ FrameEnd U o U' L ({ frames := 1, cells := 0, slots := 0, locals := 15 } : Room).cells ({ frames := 1, cells := 0, slots := 0, locals := 15 } : Room).slots) := by
  refine MetFree.of_bodySF (plainFor_of_name pn_3) hisR ?_
  intro p e s m args below meth c s₁ Bd hml0 hP hK
  obtain ⟨rfl, hZ, hh⟩ := hP
  have hx := Bd.exec
  have hby := Bd.bytes
  have hml : c.maxLocals = 3 := hml0
  have hown : s.vm.findClass "com/example/arachne/arachne/force/StressSum" = some m.cls := findClass_of_methodNamed Bd.named
  have hnm := (name_of_methodNamed Bd.named Bd.method).1
  have X0 : Stand p l e ({ frames := 1, cells := 0, slots := 0, locals := 15 } : Room) s m #[(.ref a1)] below meth c s₁ [] 0 0 := Stand.of_body Bd
  have e0 : s₁.heap = h0 := by rw [← hh, Bd.state]; rfl
  have N0 := Fr.nil n0
  show Own.Fin p e below _ (Own.Post s (Q3 Z a1 pn r q h0 n0) ({ frames := 1, cells := 0, slots := 0, locals := 15 } : Room).cells ({ frames := 1, cells := 0, slots := 0, locals := 15 } : Room).slots)
  refine Own.start (ef_3 m a1) ?_
  show Own.Fin p e below (s₁.setTop (mkF m 0 #[.val (.ref a1), .unset, .unset] [])) _
  refine Own.go (fun t k => XS.aloadN X0.here hx rfl (hb hby d3_0) rfl rfl k) ?_
  show Own.Fin p e below (s₁.setTop (mkF m 1 #[.val (.ref a1), .unset, .unset] [(.ref a1)])) _
  obtain ⟨T1, X1, e1, st1⟩ := getF X0 hx hZ hown (host := "") (Or.inl (hw _ (List.mem_of_getElem? (i := 15) rfl))) Via.refl e0 FP_ (g := (mkF m 1 #[.val (.ref a1), .unset, .unset] [(.ref a1)])) rfl rfl (hb hby d3_1)
  refine Own.go st1 ?_
  show Own.Fin p e below (T1.setTop (mkF m 4 #[.val (.ref a1), .unset, .unset] [(.long pn)])) _
  refine Own.go (fun t k => XS.lconst X1.here hx rfl (hb hby d3_4) k) ?_
  show Own.Fin p e below (T1.setTop (mkF m 5 #[.val (.ref a1), .unset, .unset] [(.long (0 : Int64)), (.long pn)])) _
  refine Own.go (fun t k => XS.lcmp X1.here hx rfl (hb hby d3_5) rfl k) ?_
  show Own.Fin p e below (T1.setTop (mkF m 6 #[.val (.ref a1), .unset, .unset] [(.int (lcmpW pn (0 : Int64)))])) _
  by_cases hc6_1 : (lcmpW pn (0 : Int64)) = (0 : Int32)
  · skip
    refine Own.go (fun t k => XS.ifNo X1.here hx rfl (hb hby d3_6) rfl ((if0 _ _).trans (teq hc6_1).2) k) ?_
    show Own.Fin p e below (T1.setTop (mkF m 9 #[.val (.ref a1), .unset, .unset] [])) _
    refine Own.go (fun t k => XS.dconst0 X1.here hx rfl (hb hby d3_9) own_d0 k) ?_
    show Own.Fin p e below (T1.setTop (mkF m 10 #[.val (.ref a1), .unset, .unset] [(.double (FP.l2d 0))])) _
    refine Own.go (fun t k => XS.dstoreN X1.here hx rfl (hb hby d3_10) rfl (l' := #[.val (.ref a1), .val (.double (FP.l2d 0)), .second]) rfl k) ?_
    show Own.Fin p e below (T1.setTop (mkF m 11 #[.val (.ref a1), .val (.double (FP.l2d 0)), .second] [])) _
    refine Own.go (fun t k => XS.goto X1.here hx rfl (pc0 := 11) (pc' := 55) rfl (hb hby d3_11) (by decide) (by decide) k) ?_
    show Own.Fin p e below (T1.setTop (mkF m 55 #[.val (.ref a1), .val (.double (FP.l2d 0)), .second] [])) _
    refine Own.go (fun t k => XS.dloadN X1.here hx rfl (hb hby d3_55) rfl k) ?_
    show Own.Fin p e below (T1.setTop (mkF m 56 #[.val (.ref a1), .val (.double (FP.l2d 0)), .second] [(.double (FP.l2d 0))])) _
    refine Own.retD X1 hx Bd.notSynchronized Bd.returns (hb hby d3_56) (by decide) (by decide) ?_
    exact ⟨by rw [show F_st pn r q = (FP.l2d 0) by rw [F_st, if_pos hc6_1]], N0, e1⟩
  · skip
    refine Own.go (fun t k => XS.ifYes X1.here hx rfl (pc0 := 6) (pc' := 14) rfl (hb hby d3_6) rfl ((if0 _ _).trans (feq hc6_1).2) (by decide) (by decide) k) ?_
    show Own.Fin p e below (T1.setTop (mkF m 14 #[.val (.ref a1), .unset, .unset] [])) _
    refine Own.go (fun t k => XS.aloadN X1.here hx rfl (hb hby d3_14) rfl rfl k) ?_
    show Own.Fin p e below (T1.setTop (mkF m 15 #[.val (.ref a1), .unset, .unset] [(.ref a1)])) _
    obtain ⟨T3, X3, e3, st3⟩ := getF X1 hx hZ hown (host := "") (Or.inl (hw _ (List.mem_of_getElem? (i := 24) rfl))) Via.refl e1 FS (g := (mkF m 15 #[.val (.ref a1), .unset, .unset] [(.ref a1)])) rfl rfl (hb hby d3_15)
    refine Own.go st3 ?_
    show Own.Fin p e below (T3.setTop (mkF m 18 #[.val (.ref a1), .unset, .unset] [(.double (FP.l2d q))])) _
    refine Own.go (fun t k => XS.dconst0 X3.here hx rfl (hb hby d3_18) own_d0 k) ?_
    show Own.Fin p e below (T3.setTop (mkF m 19 #[.val (.ref a1), .unset, .unset] [(.double (FP.l2d 0)), (.double (FP.l2d q))])) _
    refine Own.go (fun t k => XS.dcmpS (v := (lcmpW q (0 : Int64))) X3.here hx rfl (hb hby d3_19) rfl (dcmpV_w (own_b hq (by decide)) ⟨by decide, by decide⟩ .l) k) ?_
    show Own.Fin p e below (T3.setTop (mkF m 20 #[.val (.ref a1), .unset, .unset] [(.int (lcmpW q (0 : Int64)))])) _
    by_cases hc20_3 : (lcmpW q (0 : Int64)) = (0 : Int32)
    · skip
      refine Own.go (fun t k => XS.ifNo X3.here hx rfl (hb hby d3_20) rfl ((if0 _ _).trans (teq hc20_3).2) k) ?_
      show Own.Fin p e below (T3.setTop (mkF m 23 #[.val (.ref a1), .unset, .unset] [])) _
      refine Own.go (fun t k => XS.dconst1 X3.here hx rfl (hb hby d3_23) own_d1 k) ?_
      show Own.Fin p e below (T3.setTop (mkF m 24 #[.val (.ref a1), .unset, .unset] [(.double (FP.l2d 1))])) _
      refine Own.go (fun t k => XS.dstoreN X3.here hx rfl (hb hby d3_24) rfl (l' := #[.val (.ref a1), .val (.double (FP.l2d 1)), .second]) rfl k) ?_
      show Own.Fin p e below (T3.setTop (mkF m 25 #[.val (.ref a1), .val (.double (FP.l2d 1)), .second] [])) _
      refine Own.go (fun t k => XS.goto X3.here hx rfl (pc0 := 25) (pc' := 55) rfl (hb hby d3_25) (by decide) (by decide) k) ?_
      show Own.Fin p e below (T3.setTop (mkF m 55 #[.val (.ref a1), .val (.double (FP.l2d 1)), .second] [])) _
      refine Own.go (fun t k => XS.dloadN X3.here hx rfl (hb hby d3_55) rfl k) ?_
      show Own.Fin p e below (T3.setTop (mkF m 56 #[.val (.ref a1), .val (.double (FP.l2d 1)), .second] [(.double (FP.l2d 1))])) _
      refine Own.retD X3 hx Bd.notSynchronized Bd.returns (hb hby d3_56) (by decide) (by decide) ?_
      exact ⟨by rw [show F_st pn r q = (FP.l2d 1) by rw [F_st, if_neg hc6_1, if_pos hc20_3]], N0, e3⟩
    · skip
      refine Own.go (fun t k => XS.ifYes X3.here hx rfl (pc0 := 20) (pc' := 28) rfl (hb hby d3_20) rfl ((if0 _ _).trans (feq hc20_3).2) (by decide) (by decide) k) ?_
      show Own.Fin p e below (T3.setTop (mkF m 28 #[.val (.ref a1), .unset, .unset] [])) _
      refine Own.go (fun t k => XS.dconst0 X3.here hx rfl (hb hby d3_28) own_d0 k) ?_
      show Own.Fin p e below (T3.setTop (mkF m 29 #[.val (.ref a1), .unset, .unset] [(.double (FP.l2d 0))])) _
      refine Own.go (fun t k => XS.dconst1 X3.here hx rfl (hb hby d3_29) own_d1 k) ?_
      show Own.Fin p e below (T3.setTop (mkF m 30 #[.val (.ref a1), .unset, .unset] [(.double (FP.l2d 1)), (.double (FP.l2d 0))])) _
      refine Own.go (fun t k => XS.aloadN X3.here hx rfl (hb hby d3_30) rfl rfl k) ?_
      show Own.Fin p e below (T3.setTop (mkF m 31 #[.val (.ref a1), .unset, .unset] [(.ref a1), (.double (FP.l2d 1)), (.double (FP.l2d 0))])) _
      obtain ⟨T5, X5, e5, st5⟩ := getF X3 hx hZ hown (host := "") (Or.inl (hw _ (List.mem_of_getElem? (i := 22) rfl))) Via.refl e3 FR (g := (mkF m 31 #[.val (.ref a1), .unset, .unset] [(.ref a1), (.double (FP.l2d 1)), (.double (FP.l2d 0))])) rfl rfl (hb hby d3_31)
      refine Own.go st5 ?_
      show Own.Fin p e below (T5.setTop (mkF m 34 #[.val (.ref a1), .unset, .unset] [(.double (FP.l2d r)), (.double (FP.l2d 1)), (.double (FP.l2d 0))])) _
      refine Own.go (fun t k => XS.aloadN X5.here hx rfl (hb hby d3_34) rfl rfl k) ?_
      show Own.Fin p e below (T5.setTop (mkF m 35 #[.val (.ref a1), .unset, .unset] [(.ref a1), (.double (FP.l2d r)), (.double (FP.l2d 1)), (.double (FP.l2d 0))])) _
      obtain ⟨T6, X6, e6, st6⟩ := getF X5 hx hZ hown (host := "") (Or.inl (hw _ (List.mem_of_getElem? (i := 22) rfl))) Via.refl e5 FR (g := (mkF m 35 #[.val (.ref a1), .unset, .unset] [(.ref a1), (.double (FP.l2d r)), (.double (FP.l2d 1)), (.double (FP.l2d 0))])) rfl rfl (hb hby d3_35)
      refine Own.go st6 ?_
      show Own.Fin p e below (T6.setTop (mkF m 38 #[.val (.ref a1), .unset, .unset] [(.double (FP.l2d r)), (.double (FP.l2d r)), (.double (FP.l2d 1)), (.double (FP.l2d 0))])) _
      refine Own.go (fun t k => XS.dmulS X6.here hx rfl (hb hby d3_38) rfl (by rw [own_mul hr hr (by decide) (by decide) (by decide)]; exact own_l2dnn _) (own_mul hr hr (by decide) (by decide) (by decide)) k) ?_
      show Own.Fin p e below (T6.setTop (mkF m 39 #[.val (.ref a1), .unset, .unset] [(.double (FP.l2d (r * r))), (.double (FP.l2d 1)), (.double (FP.l2d 0))])) _
      refine Own.go (fun t k => XS.aloadN X6.here hx rfl (hb hby d3_39) rfl rfl k) ?_
      show Own.Fin p e below (T6.setTop (mkF m 40 #[.val (.ref a1), .unset, .unset] [(.ref a1), (.double (FP.l2d (r * r))), (.double (FP.l2d 1)), (.double (FP.l2d 0))])) _
      obtain ⟨T7, X7, e7, st7⟩ := getF X6 hx hZ hown (host := "") (Or.inl (hw _ (List.mem_of_getElem? (i := 15) rfl))) Via.refl e6 FP_ (g := (mkF m 40 #[.val (.ref a1), .unset, .unset] [(.ref a1), (.double (FP.l2d (r * r))), (.double (FP.l2d 1)), (.double (FP.l2d 0))])) rfl rfl (hb hby d3_40)
      refine Own.go st7 ?_
      show Own.Fin p e below (T7.setTop (mkF m 43 #[.val (.ref a1), .unset, .unset] [(.long pn), (.double (FP.l2d (r * r))), (.double (FP.l2d 1)), (.double (FP.l2d 0))])) _
      refine Own.go (fun t k => XS.l2dS X7.here hx rfl (hb hby d3_43) rfl rfl k) ?_
      show Own.Fin p e below (T7.setTop (mkF m 44 #[.val (.ref a1), .unset, .unset] [(.double (FP.l2d pn)), (.double (FP.l2d (r * r))), (.double (FP.l2d 1)), (.double (FP.l2d 0))])) _
      refine Own.go (fun t k => XS.aloadN X7.here hx rfl (hb hby d3_44) rfl rfl k) ?_
      show Own.Fin p e below (T7.setTop (mkF m 45 #[.val (.ref a1), .unset, .unset] [(.ref a1), (.double (FP.l2d pn)), (.double (FP.l2d (r * r))), (.double (FP.l2d 1)), (.double (FP.l2d 0))])) _
      obtain ⟨T8, X8, e8, st8⟩ := getF X7 hx hZ hown (host := "") (Or.inl (hw _ (List.mem_of_getElem? (i := 24) rfl))) Via.refl e7 FS (g := (mkF m 45 #[.val (.ref a1), .unset, .unset] [(.ref a1), (.double (FP.l2d pn)), (.double (FP.l2d (r * r))), (.double (FP.l2d 1)), (.double (FP.l2d 0))])) rfl rfl (hb hby d3_45)
      refine Own.go st8 ?_
      show Own.Fin p e below (T8.setTop (mkF m 48 #[.val (.ref a1), .unset, .unset] [(.double (FP.l2d q)), (.double (FP.l2d pn)), (.double (FP.l2d (r * r))), (.double (FP.l2d 1)), (.double (FP.l2d 0))])) _
      refine Own.go (fun t k => XS.dmulS X8.here hx rfl (hb hby d3_48) rfl (by rw [own_mul hp hq (by decide) (by decide) (by decide)]; exact own_l2dnn _) (own_mul hp hq (by decide) (by decide) (by decide)) k) ?_
      show Own.Fin p e below (T8.setTop (mkF m 49 #[.val (.ref a1), .unset, .unset] [(.double (FP.l2d (pn * q))), (.double (FP.l2d (r * r))), (.double (FP.l2d 1)), (.double (FP.l2d 0))])) _
      refine Own.go (fun t k => XS.ddivS X8.here hx rfl (hb hby d3_49) rfl (own_nn (own_x hp hr hq hcs hc6_1 hc20_3).1) rfl k) ?_
      show Own.Fin p e below (T8.setTop (mkF m 50 #[.val (.ref a1), .unset, .unset] [(.double (FP.ddiv (FP.l2d (r * r)) (FP.l2d (pn * q)))), (.double (FP.l2d 1)), (.double (FP.l2d 0))])) _
      refine Own.go (fun t k => XS.dsubS X8.here hx rfl (hb hby d3_50) rfl (own_nn (own_x hp hr hq hcs hc6_1 hc20_3).2.1) rfl k) ?_
      show Own.Fin p e below (T8.setTop (mkF m 51 #[.val (.ref a1), .unset, .unset] [(.double (F_x pn r q)), (.double (FP.l2d 0))])) _
      obtain ⟨T9, X9, e9, st9⟩ := natS X8 hx hZ hown (hw _ (List.mem_of_getElem? (i := 26) rfl)) (hw _ (List.mem_of_getElem? (i := 27) rfl)) (hw _ (List.mem_of_getElem? (i := 28) rfl)) (hw _ (List.mem_of_getElem? (i := 29) rfl)) (by decide) e8 (W := 0) (val := .double (Native.java_lang_Math.nans.pick64 true (FP.l2d 0) (F_x pn r q))) (fun hc => Jvm.Free.Fl.Abs.maxD_pays (W := 0) (FP.l2d 0) (F_x pn r q) (own_maxc ▸ hc) (by decide) (by decide)) (g := (mkF m 51 #[.val (.ref a1), .unset, .unset] [(.double (F_x pn r q)), (.double (FP.l2d 0))])) rfl (by rw [hml]; rfl) (argsL := [.double (FP.l2d 0), .double (F_x pn r q)]) (rest := []) (lenOf pd_0 rfl) rfl (by show 2 * 0 + _ ≤ _; exact Nat.le_of_eq rfl) (hb hby d3_51) (by decide) (by decide) ⟨rfl, own_l2dnn _, own_nn (own_x hp hr hq hcs hc6_1 hc20_3).2.1⟩ rfl
      refine Own.go st9 ?_
      show Own.Fin p e below (T9.setTop (mkF m 54 #[.val (.ref a1), .unset, .unset] [(.double (Native.java_lang_Math.nans.pick64 true (FP.l2d 0) (F_x pn r q)))])) _
      refine Own.go (fun t k => XS.dstoreN X9.here hx rfl (hb hby d3_54) rfl (l' := #[.val (.ref a1), .val (.double (Native.java_lang_Math.nans.pick64 true (FP.l2d 0) (F_x pn r q))), .second]) rfl k) ?_
      show Own.Fin p e below (T9.setTop (mkF m 55 #[.val (.ref a1), .val (.double (Native.java_lang_Math.nans.pick64 true (FP.l2d 0) (F_x pn r q))), .second] [])) _
      refine Own.go (fun t k => XS.dloadN X9.here hx rfl (hb hby d3_55) rfl k) ?_
      show Own.Fin p e below (T9.setTop (mkF m 56 #[.val (.ref a1), .val (.double (Native.java_lang_Math.nans.pick64 true (FP.l2d 0) (F_x pn r q))), .second] [(.double (Native.java_lang_Math.nans.pick64 true (FP.l2d 0) (F_x pn r q)))])) _
      refine Own.retD X9 hx Bd.notSynchronized Bd.returns (hb hby d3_56) (by decide) (by decide) ?_
      exact ⟨by rw [show F_st pn r q = (Native.java_lang_Math.nans.pick64 true (FP.l2d 0) (F_x pn r q)) by rw [F_st, if_neg hc6_1, if_neg hc20_3]], N0, e9⟩
theorem pd_2 : parseMethodDescriptor "()D" = some ⟨[], some .double⟩ := by decide +kernel
theorem pd_1 : parseMethodDescriptor "()V" = some ⟨[], none⟩ := by decide +kernel
theorem pd_3 : parseMethodDescriptor "(DI)V" = some ⟨[.double, .int], none⟩ := by decide +kernel
theorem pn_0 : plainName "com/example/arachne/arachne/force/StressSumAddPinLaw" = true := by first | (simp [plainName, overriddenIn]; done) | decide +kernel
theorem ef_0 (m : MethodId) (p1 : Int32) (p2 : Int32) (p3 : Int32) (p4 : Int32) (p5 : Int32) (p6 : Int32) : entryFrame m #[(.int p1), (.int p2), (.int p3), (.int p4), (.int p5), (.int p6)] maxLocals = mkF m 0 #[.val (.int p1), .val (.int p2), .val (.int p3), .val (.int p4), .val (.int p5), .val (.int p6), .unset, .unset, .unset, .unset, .unset, .unset, .unset, .unset, .unset, .unset, .unset, .unset, .unset, .unset, .unset, .unset, .unset, .unset, .unset] [] := by first | (simp [entryFrame, mkF, argsToLocals, Value.category, maxLocals]; done) | rfl
def Q0 (Z : State) (p1 : Int32) (p2 : Int32) (p3 : Int32) (p4 : Int32) (p5 : Int32) (p6 : Int32)  (h0 : Heap) (n0 : Nat) : Option Value → Heap → List Loc → Prop := fun v h L => v = some (.int 1) ∧ Fr n0 L
set_option maxRecDepth 65536 in
set_option maxHeartbeats 40000000 in
theorem rm0 (l : Launch) (Z : State) (a0 : Array Value) (hw : ∀ d ∈ tables_1, d.before a0 Z = true) (ws : List Jvm.Cond) (p1 : Int32) (p2 : Int32) (p3 : Int32) (p4 : Int32) (p5 : Int32) (p6 : Int32)  (h0 : Heap) (n0 : Nat) (Z0 : n0 ≤ h0.size)  :
    MetFree l x (head1 (Jvm.Cond.code x code maxLocals ret :: ws) room_1) (fun a U => a = #[(.int p1), (.int p2), (.int p3), (.int p4), (.int p5), (.int p6)] ∧ Z.Warmed39 U.vm ∧ U.heap = h0) (fun _ _ _ _ _ => True) (fun _ U o U' => ∃ v L, o = .returned v ∧ (Q0 Z p1 p2 p3 p4 p5 p6 h0 n0) v U'.heap L ∧ FrameEnd U o U' L room_1.cells room_1.slots) := by
  refine MetFree.of_bodySF (plainFor_of_name pn_0) hisR ?_
  intro p e s m args below meth c s₁ Bd hml0 hP hK
  obtain ⟨rfl, hZ, hh⟩ := hP
  have hx := Bd.exec
  have hby := Bd.bytes
  have hml : c.maxLocals = 25 := hml0
  have hown : s.vm.findClass "com/example/arachne/arachne/force/StressSumAddPinLaw" = some m.cls := findClass_of_methodNamed Bd.named
  have hnm := (name_of_methodNamed Bd.named Bd.method).1
  have X0 : Stand p l e room_1 s m #[(.int p1), (.int p2), (.int p3), (.int p4), (.int p5), (.int p6)] below meth c s₁ [] 0 0 := Stand.of_body Bd
  have e0 : s₁.heap = h0 := by rw [← hh, Bd.state]; rfl
  have N0 := Fr.nil n0
  show Own.Fin p e below _ (Own.Post s (Q0 Z p1 p2 p3 p4 p5 p6 h0 n0) room_1.cells room_1.slots)
  refine Own.start (ef_0 m p1 p2 p3 p4 p5 p6) ?_
  show Own.Fin p e below (s₁.setTop (mkF m 0 #[.val (.int p1), .val (.int p2), .val (.int p3), .val (.int p4), .val (.int p5), .val (.int p6), .unset, .unset, .unset, .unset, .unset, .unset, .unset, .unset, .unset, .unset, .unset, .unset, .unset, .unset, .unset, .unset, .unset, .unset, .unset] [])) _
  refine Own.go (fun t k => XS.iloadN X0.here hx rfl (hb hby at_0) rfl k) ?_
  show Own.Fin p e below (s₁.setTop (mkF m 1 #[.val (.int p1), .val (.int p2), .val (.int p3), .val (.int p4), .val (.int p5), .val (.int p6), .unset, .unset, .unset, .unset, .unset, .unset, .unset, .unset, .unset, .unset, .unset, .unset, .unset, .unset, .unset, .unset, .unset, .unset, .unset] [(.int p1)])) _
  refine Own.go (fun t k => XS.iconst X0.here hx rfl (hb hby at_1) k) ?_
  show Own.Fin p e below (s₁.setTop (mkF m 2 #[.val (.int p1), .val (.int p2), .val (.int p3), .val (.int p4), .val (.int p5), .val (.int p6), .unset, .unset, .unset, .unset, .unset, .unset, .unset, .unset, .unset, .unset, .unset, .unset, .unset, .unset, .unset, .unset, .unset, .unset, .unset] [(.int (3 : Int32)), (.int p1)])) _
  refine Own.go (fun t k => XS.iand X0.here hx rfl (hb hby at_2) rfl k) ?_
  show Own.Fin p e below (s₁.setTop (mkF m 3 #[.val (.int p1), .val (.int p2), .val (.int p3), .val (.int p4), .val (.int p5), .val (.int p6), .unset, .unset, .unset, .unset, .unset, .unset, .unset, .unset, .unset, .unset, .unset, .unset, .unset, .unset, .unset, .unset, .unset, .unset, .unset] [(.int (p1 &&& (3 : Int32)))])) _
  rcases own_four p1 with hn4 | hn4 | hn4 | hn4
  · rw [hn4]
    show Own.Fin p e below (s₁.setTop (mkF m 3 #[.val (.int p1), .val (.int p2), .val (.int p3), .val (.int p4), .val (.int p5), .val (.int p6), .unset, .unset, .unset, .unset, .unset, .unset, .unset, .unset, .unset, .unset, .unset, .unset, .unset, .unset, .unset, .unset, .unset, .unset, .unset] [(.int (0 : Int32))])) _
    refine Own.go (fun t k => XS.istore X0.here hx rfl (hb hby at_3) rfl (l' := #[.val (.int p1), .val (.int p2), .val (.int p3), .val (.int p4), .val (.int p5), .val (.int p6), .val (.int (0 : Int32)), .unset, .unset, .unset, .unset, .unset, .unset, .unset, .unset, .unset, .unset, .unset, .unset, .unset, .unset, .unset, .unset, .unset, .unset]) rfl k) ?_
    show Own.Fin p e below (s₁.setTop (mkF m 5 #[.val (.int p1), .val (.int p2), .val (.int p3), .val (.int p4), .val (.int p5), .val (.int p6), .val (.int (0 : Int32)), .unset, .unset, .unset, .unset, .unset, .unset, .unset, .unset, .unset, .unset, .unset, .unset, .unset, .unset, .unset, .unset, .unset, .unset] [])) _
    refine Own.go (fun t k => XS.iloadN X0.here hx rfl (hb hby at_5) rfl k) ?_
    show Own.Fin p e below (s₁.setTop (mkF m 6 #[.val (.int p1), .val (.int p2), .val (.int p3), .val (.int p4), .val (.int p5), .val (.int p6), .val (.int (0 : Int32)), .unset, .unset, .unset, .unset, .unset, .unset, .unset, .unset, .unset, .unset, .unset, .unset, .unset, .unset, .unset, .unset, .unset, .unset] [(.int p1)])) _
    refine Own.go (fun t k => XS.iconst X0.here hx rfl (hb hby at_6) k) ?_
    show Own.Fin p e below (s₁.setTop (mkF m 7 #[.val (.int p1), .val (.int p2), .val (.int p3), .val (.int p4), .val (.int p5), .val (.int p6), .val (.int (0 : Int32)), .unset, .unset, .unset, .unset, .unset, .unset, .unset, .unset, .unset, .unset, .unset, .unset, .unset, .unset, .unset, .unset, .unset, .unset] [(.int (2 : Int32)), (.int p1)])) _
    refine Own.go (fun t k => XS.iushr X0.here hx rfl (hb hby at_7) rfl k) ?_
    show Own.Fin p e below (s₁.setTop (mkF m 8 #[.val (.int p1), .val (.int p2), .val (.int p3), .val (.int p4), .val (.int p5), .val (.int p6), .val (.int (0 : Int32)), .unset, .unset, .unset, .unset, .unset, .unset, .unset, .unset, .unset, .unset, .unset, .unset, .unset, .unset, .unset, .unset, .unset, .unset] [(.int (((p1).toUInt32 >>> ((2 : Int32) &&& 31).toUInt32).toInt32))])) _
    refine Own.go (fun t k => XS.sipush X0.here hx rfl (hb hby at_8) k) ?_
    show Own.Fin p e below (s₁.setTop (mkF m 11 #[.val (.int p1), .val (.int p2), .val (.int p3), .val (.int p4), .val (.int p5), .val (.int p6), .val (.int (0 : Int32)), .unset, .unset, .unset, .unset, .unset, .unset, .unset, .unset, .unset, .unset, .unset, .unset, .unset, .unset, .unset, .unset, .unset, .unset] [(.int (1023 : Int32)), (.int (((p1).toUInt32 >>> ((2 : Int32) &&& 31).toUInt32).toInt32))])) _
    refine Own.go (fun t k => XS.iand X0.here hx rfl (hb hby at_11) rfl k) ?_
    show Own.Fin p e below (s₁.setTop (mkF m 12 #[.val (.int p1), .val (.int p2), .val (.int p3), .val (.int p4), .val (.int p5), .val (.int p6), .val (.int (0 : Int32)), .unset, .unset, .unset, .unset, .unset, .unset, .unset, .unset, .unset, .unset, .unset, .unset, .unset, .unset, .unset, .unset, .unset, .unset] [(.int ((((p1).toUInt32 >>> ((2 : Int32) &&& 31).toUInt32).toInt32) &&& (1023 : Int32)))])) _
    refine Own.go (fun t k => XS.i2l X0.here hx rfl (hb hby at_12) rfl k) ?_
    show Own.Fin p e below (s₁.setTop (mkF m 13 #[.val (.int p1), .val (.int p2), .val (.int p3), .val (.int p4), .val (.int p5), .val (.int p6), .val (.int (0 : Int32)), .unset, .unset, .unset, .unset, .unset, .unset, .unset, .unset, .unset, .unset, .unset, .unset, .unset, .unset, .unset, .unset, .unset, .unset] [(.long ((((((p1).toUInt32 >>> ((2 : Int32) &&& 31).toUInt32).toInt32) &&& (1023 : Int32))).toInt64))])) _
    have hk1 : 0 ≤ (((((((p1).toUInt32 >>> ((2 : Int32) &&& 31).toUInt32).toInt32) &&& (1023 : Int32))).toInt64)).toInt ∧ (((((((p1).toUInt32 >>> ((2 : Int32) &&& 31).toUInt32).toInt32) &&& (1023 : Int32))).toInt64)).toInt ≤ 1023 := own_kb _
    generalize hk1_ : ((((((p1).toUInt32 >>> ((2 : Int32) &&& 31).toUInt32).toInt32) &&& (1023 : Int32))).toInt64) = k1 at hk1 ⊢
    refine Own.go (fun t k => XS.lstore X0.here hx rfl (hb hby at_13) rfl (l' := #[.val (.int p1), .val (.int p2), .val (.int p3), .val (.int p4), .val (.int p5), .val (.int p6), .val (.int (0 : Int32)), .val (.long k1), .second, .unset, .unset, .unset, .unset, .unset, .unset, .unset, .unset, .unset, .unset, .unset, .unset, .unset, .unset, .unset, .unset]) rfl k) ?_
    show Own.Fin p e below (s₁.setTop (mkF m 15 #[.val (.int p1), .val (.int p2), .val (.int p3), .val (.int p4), .val (.int p5), .val (.int p6), .val (.int (0 : Int32)), .val (.long k1), .second, .unset, .unset, .unset, .unset, .unset, .unset, .unset, .unset, .unset, .unset, .unset, .unset, .unset, .unset, .unset, .unset] [])) _
    refine Own.go (fun t k => XS.iloadN X0.here hx rfl (hb hby at_15) rfl k) ?_
    show Own.Fin p e below (s₁.setTop (mkF m 16 #[.val (.int p1), .val (.int p2), .val (.int p3), .val (.int p4), .val (.int p5), .val (.int p6), .val (.int (0 : Int32)), .val (.long k1), .second, .unset, .unset, .unset, .unset, .unset, .unset, .unset, .unset, .unset, .unset, .unset, .unset, .unset, .unset, .unset, .unset] [(.int p2)])) _
    refine Own.go (fun t k => XS.sipush X0.here hx rfl (hb hby at_16) k) ?_
    show Own.Fin p e below (s₁.setTop (mkF m 19 #[.val (.int p1), .val (.int p2), .val (.int p3), .val (.int p4), .val (.int p5), .val (.int p6), .val (.int (0 : Int32)), .val (.long k1), .second, .unset, .unset, .unset, .unset, .unset, .unset, .unset, .unset, .unset, .unset, .unset, .unset, .unset, .unset, .unset, .unset] [(.int (1023 : Int32)), (.int p2)])) _
    refine Own.go (fun t k => XS.iand X0.here hx rfl (hb hby at_19) rfl k) ?_
    show Own.Fin p e below (s₁.setTop (mkF m 20 #[.val (.int p1), .val (.int p2), .val (.int p3), .val (.int p4), .val (.int p5), .val (.int p6), .val (.int (0 : Int32)), .val (.long k1), .second, .unset, .unset, .unset, .unset, .unset, .unset, .unset, .unset, .unset, .unset, .unset, .unset, .unset, .unset, .unset, .unset] [(.int (p2 &&& (1023 : Int32)))])) _
    refine Own.go (fun t k => XS.i2l X0.here hx rfl (hb hby at_20) rfl k) ?_
    show Own.Fin p e below (s₁.setTop (mkF m 21 #[.val (.int p1), .val (.int p2), .val (.int p3), .val (.int p4), .val (.int p5), .val (.int p6), .val (.int (0 : Int32)), .val (.long k1), .second, .unset, .unset, .unset, .unset, .unset, .unset, .unset, .unset, .unset, .unset, .unset, .unset, .unset, .unset, .unset, .unset] [(.long (((p2 &&& (1023 : Int32))).toInt64))])) _
    have hk2 : 0 ≤ ((((p2 &&& (1023 : Int32))).toInt64)).toInt ∧ ((((p2 &&& (1023 : Int32))).toInt64)).toInt ≤ 1023 := own_kb _
    generalize hk2_ : (((p2 &&& (1023 : Int32))).toInt64) = k2 at hk2 ⊢
    refine Own.go (fun t k => XS.lstore X0.here hx rfl (hb hby at_21) rfl (l' := #[.val (.int p1), .val (.int p2), .val (.int p3), .val (.int p4), .val (.int p5), .val (.int p6), .val (.int (0 : Int32)), .val (.long k1), .second, .val (.long k2), .second, .unset, .unset, .unset, .unset, .unset, .unset, .unset, .unset, .unset, .unset, .unset, .unset, .unset, .unset]) rfl k) ?_
    show Own.Fin p e below (s₁.setTop (mkF m 23 #[.val (.int p1), .val (.int p2), .val (.int p3), .val (.int p4), .val (.int p5), .val (.int p6), .val (.int (0 : Int32)), .val (.long k1), .second, .val (.long k2), .second, .unset, .unset, .unset, .unset, .unset, .unset, .unset, .unset, .unset, .unset, .unset, .unset, .unset, .unset] [])) _
    refine Own.go (fun t k => XS.iloadN X0.here hx rfl (hb hby at_23) rfl k) ?_
    show Own.Fin p e below (s₁.setTop (mkF m 24 #[.val (.int p1), .val (.int p2), .val (.int p3), .val (.int p4), .val (.int p5), .val (.int p6), .val (.int (0 : Int32)), .val (.long k1), .second, .val (.long k2), .second, .unset, .unset, .unset, .unset, .unset, .unset, .unset, .unset, .unset, .unset, .unset, .unset, .unset, .unset] [(.int p3)])) _
    refine Own.go (fun t k => XS.sipush X0.here hx rfl (hb hby at_24) k) ?_
    show Own.Fin p e below (s₁.setTop (mkF m 27 #[.val (.int p1), .val (.int p2), .val (.int p3), .val (.int p4), .val (.int p5), .val (.int p6), .val (.int (0 : Int32)), .val (.long k1), .second, .val (.long k2), .second, .unset, .unset, .unset, .unset, .unset, .unset, .unset, .unset, .unset, .unset, .unset, .unset, .unset, .unset] [(.int (1023 : Int32)), (.int p3)])) _
    refine Own.go (fun t k => XS.iand X0.here hx rfl (hb hby at_27) rfl k) ?_
    show Own.Fin p e below (s₁.setTop (mkF m 28 #[.val (.int p1), .val (.int p2), .val (.int p3), .val (.int p4), .val (.int p5), .val (.int p6), .val (.int (0 : Int32)), .val (.long k1), .second, .val (.long k2), .second, .unset, .unset, .unset, .unset, .unset, .unset, .unset, .unset, .unset, .unset, .unset, .unset, .unset, .unset] [(.int (p3 &&& (1023 : Int32)))])) _
    refine Own.go (fun t k => XS.i2l X0.here hx rfl (hb hby at_28) rfl k) ?_
    show Own.Fin p e below (s₁.setTop (mkF m 29 #[.val (.int p1), .val (.int p2), .val (.int p3), .val (.int p4), .val (.int p5), .val (.int p6), .val (.int (0 : Int32)), .val (.long k1), .second, .val (.long k2), .second, .unset, .unset, .unset, .unset, .unset, .unset, .unset, .unset, .unset, .unset, .unset, .unset, .unset, .unset] [(.long (((p3 &&& (1023 : Int32))).toInt64))])) _
    have hk3 : 0 ≤ ((((p3 &&& (1023 : Int32))).toInt64)).toInt ∧ ((((p3 &&& (1023 : Int32))).toInt64)).toInt ≤ 1023 := own_kb _
    generalize hk3_ : (((p3 &&& (1023 : Int32))).toInt64) = k3 at hk3 ⊢
    refine Own.go (fun t k => XS.lstore X0.here hx rfl (hb hby at_29) rfl (l' := #[.val (.int p1), .val (.int p2), .val (.int p3), .val (.int p4), .val (.int p5), .val (.int p6), .val (.int (0 : Int32)), .val (.long k1), .second, .val (.long k2), .second, .val (.long k3), .second, .unset, .unset, .unset, .unset, .unset, .unset, .unset, .unset, .unset, .unset, .unset, .unset]) rfl k) ?_
    show Own.Fin p e below (s₁.setTop (mkF m 31 #[.val (.int p1), .val (.int p2), .val (.int p3), .val (.int p4), .val (.int p5), .val (.int p6), .val (.int (0 : Int32)), .val (.long k1), .second, .val (.long k2), .second, .val (.long k3), .second, .unset, .unset, .unset, .unset, .unset, .unset, .unset, .unset, .unset, .unset, .unset, .unset] [])) _
    refine Own.go (fun t k => XS.iconst X0.here hx rfl (hb hby at_31) k) ?_
    show Own.Fin p e below (s₁.setTop (mkF m 32 #[.val (.int p1), .val (.int p2), .val (.int p3), .val (.int p4), .val (.int p5), .val (.int p6), .val (.int (0 : Int32)), .val (.long k1), .second, .val (.long k2), .second, .val (.long k3), .second, .unset, .unset, .unset, .unset, .unset, .unset, .unset, .unset, .unset, .unset, .unset, .unset] [(.int (1 : Int32))])) _
    refine Own.go (fun t k => XS.iloadN X0.here hx rfl (hb hby at_32) rfl k) ?_
    show Own.Fin p e below (s₁.setTop (mkF m 33 #[.val (.int p1), .val (.int p2), .val (.int p3), .val (.int p4), .val (.int p5), .val (.int p6), .val (.int (0 : Int32)), .val (.long k1), .second, .val (.long k2), .second, .val (.long k3), .second, .unset, .unset, .unset, .unset, .unset, .unset, .unset, .unset, .unset, .unset, .unset, .unset] [(.int p4), (.int (1 : Int32))])) _
    refine Own.go (fun t k => X0.ldcInt hx hown (mvT hZ (hw _ (List.mem_of_getElem? (i := 0) rfl))) (g := (mkF m 33 #[.val (.int p1), .val (.int p2), .val (.int p3), .val (.int p4), .val (.int p5), .val (.int p6), .val (.int (0 : Int32)), .val (.long k1), .second, .val (.long k2), .second, .val (.long k3), .second, .unset, .unset, .unset, .unset, .unset, .unset, .unset, .unset, .unset, .unset, .unset, .unset] [(.int p4), (.int (1 : Int32))])) rfl (hb hby at_33) _ k) ?_
    show Own.Fin p e below (s₁.setTop (mkF m 35 #[.val (.int p1), .val (.int p2), .val (.int p3), .val (.int p4), .val (.int p5), .val (.int p6), .val (.int (0 : Int32)), .val (.long k1), .second, .val (.long k2), .second, .val (.long k3), .second, .unset, .unset, .unset, .unset, .unset, .unset, .unset, .unset, .unset, .unset, .unset, .unset] [(.int (1048575 : Int32)), (.int p4), (.int (1 : Int32))])) _
    refine Own.go (fun t k => XS.iand X0.here hx rfl (hb hby at_35) rfl k) ?_
    show Own.Fin p e below (s₁.setTop (mkF m 36 #[.val (.int p1), .val (.int p2), .val (.int p3), .val (.int p4), .val (.int p5), .val (.int p6), .val (.int (0 : Int32)), .val (.long k1), .second, .val (.long k2), .second, .val (.long k3), .second, .unset, .unset, .unset, .unset, .unset, .unset, .unset, .unset, .unset, .unset, .unset, .unset] [(.int (p4 &&& (1048575 : Int32))), (.int (1 : Int32))])) _
    refine Own.go (fun t k => XS.iadd X0.here hx rfl (hb hby at_36) rfl k) ?_
    show Own.Fin p e below (s₁.setTop (mkF m 37 #[.val (.int p1), .val (.int p2), .val (.int p3), .val (.int p4), .val (.int p5), .val (.int p6), .val (.int (0 : Int32)), .val (.long k1), .second, .val (.long k2), .second, .val (.long k3), .second, .unset, .unset, .unset, .unset, .unset, .unset, .unset, .unset, .unset, .unset, .unset, .unset] [(.int ((1 : Int32) + (p4 &&& (1048575 : Int32))))])) _
    have hd1 : 1 ≤ (((1 : Int32) + (p4 &&& (1048575 : Int32)))).toInt ∧ (((1 : Int32) + (p4 &&& (1048575 : Int32)))).toInt ≤ 1048576 := own_db _
    generalize hd1_ : ((1 : Int32) + (p4 &&& (1048575 : Int32))) = d1 at hd1 ⊢
    refine Own.go (fun t k => XS.istore X0.here hx rfl (hb hby at_37) rfl (l' := #[.val (.int p1), .val (.int p2), .val (.int p3), .val (.int p4), .val (.int p5), .val (.int p6), .val (.int (0 : Int32)), .val (.long k1), .second, .val (.long k2), .second, .val (.long k3), .second, .val (.int d1), .unset, .unset, .unset, .unset, .unset, .unset, .unset, .unset, .unset, .unset, .unset]) rfl k) ?_
    show Own.Fin p e below (s₁.setTop (mkF m 39 #[.val (.int p1), .val (.int p2), .val (.int p3), .val (.int p4), .val (.int p5), .val (.int p6), .val (.int (0 : Int32)), .val (.long k1), .second, .val (.long k2), .second, .val (.long k3), .second, .val (.int d1), .unset, .unset, .unset, .unset, .unset, .unset, .unset, .unset, .unset, .unset, .unset] [])) _
    refine Own.go (fun t k => XS.iconst X0.here hx rfl (hb hby at_39) k) ?_
    show Own.Fin p e below (s₁.setTop (mkF m 40 #[.val (.int p1), .val (.int p2), .val (.int p3), .val (.int p4), .val (.int p5), .val (.int p6), .val (.int (0 : Int32)), .val (.long k1), .second, .val (.long k2), .second, .val (.long k3), .second, .val (.int d1), .unset, .unset, .unset, .unset, .unset, .unset, .unset, .unset, .unset, .unset, .unset] [(.int (1 : Int32))])) _
    refine Own.go (fun t k => XS.iload X0.here hx rfl (hb hby at_40) rfl k) ?_
    show Own.Fin p e below (s₁.setTop (mkF m 42 #[.val (.int p1), .val (.int p2), .val (.int p3), .val (.int p4), .val (.int p5), .val (.int p6), .val (.int (0 : Int32)), .val (.long k1), .second, .val (.long k2), .second, .val (.long k3), .second, .val (.int d1), .unset, .unset, .unset, .unset, .unset, .unset, .unset, .unset, .unset, .unset, .unset] [(.int p5), (.int (1 : Int32))])) _
    refine Own.go (fun t k => X0.ldcInt hx hown (mvT hZ (hw _ (List.mem_of_getElem? (i := 0) rfl))) (g := (mkF m 42 #[.val (.int p1), .val (.int p2), .val (.int p3), .val (.int p4), .val (.int p5), .val (.int p6), .val (.int (0 : Int32)), .val (.long k1), .second, .val (.long k2), .second, .val (.long k3), .second, .val (.int d1), .unset, .unset, .unset, .unset, .unset, .unset, .unset, .unset, .unset, .unset, .unset] [(.int p5), (.int (1 : Int32))])) rfl (hb hby at_42) _ k) ?_
    show Own.Fin p e below (s₁.setTop (mkF m 44 #[.val (.int p1), .val (.int p2), .val (.int p3), .val (.int p4), .val (.int p5), .val (.int p6), .val (.int (0 : Int32)), .val (.long k1), .second, .val (.long k2), .second, .val (.long k3), .second, .val (.int d1), .unset, .unset, .unset, .unset, .unset, .unset, .unset, .unset, .unset, .unset, .unset] [(.int (1048575 : Int32)), (.int p5), (.int (1 : Int32))])) _
    refine Own.go (fun t k => XS.iand X0.here hx rfl (hb hby at_44) rfl k) ?_
    show Own.Fin p e below (s₁.setTop (mkF m 45 #[.val (.int p1), .val (.int p2), .val (.int p3), .val (.int p4), .val (.int p5), .val (.int p6), .val (.int (0 : Int32)), .val (.long k1), .second, .val (.long k2), .second, .val (.long k3), .second, .val (.int d1), .unset, .unset, .unset, .unset, .unset, .unset, .unset, .unset, .unset, .unset, .unset] [(.int (p5 &&& (1048575 : Int32))), (.int (1 : Int32))])) _
    refine Own.go (fun t k => XS.iadd X0.here hx rfl (hb hby at_45) rfl k) ?_
    show Own.Fin p e below (s₁.setTop (mkF m 46 #[.val (.int p1), .val (.int p2), .val (.int p3), .val (.int p4), .val (.int p5), .val (.int p6), .val (.int (0 : Int32)), .val (.long k1), .second, .val (.long k2), .second, .val (.long k3), .second, .val (.int d1), .unset, .unset, .unset, .unset, .unset, .unset, .unset, .unset, .unset, .unset, .unset] [(.int ((1 : Int32) + (p5 &&& (1048575 : Int32))))])) _
    have hd2 : 1 ≤ (((1 : Int32) + (p5 &&& (1048575 : Int32)))).toInt ∧ (((1 : Int32) + (p5 &&& (1048575 : Int32)))).toInt ≤ 1048576 := own_db _
    generalize hd2_ : ((1 : Int32) + (p5 &&& (1048575 : Int32))) = d2 at hd2 ⊢
    refine Own.go (fun t k => XS.istore X0.here hx rfl (hb hby at_46) rfl (l' := #[.val (.int p1), .val (.int p2), .val (.int p3), .val (.int p4), .val (.int p5), .val (.int p6), .val (.int (0 : Int32)), .val (.long k1), .second, .val (.long k2), .second, .val (.long k3), .second, .val (.int d1), .val (.int d2), .unset, .unset, .unset, .unset, .unset, .unset, .unset, .unset, .unset, .unset]) rfl k) ?_
    show Own.Fin p e below (s₁.setTop (mkF m 48 #[.val (.int p1), .val (.int p2), .val (.int p3), .val (.int p4), .val (.int p5), .val (.int p6), .val (.int (0 : Int32)), .val (.long k1), .second, .val (.long k2), .second, .val (.long k3), .second, .val (.int d1), .val (.int d2), .unset, .unset, .unset, .unset, .unset, .unset, .unset, .unset, .unset, .unset] [])) _
    refine Own.go (fun t k => XS.iconst X0.here hx rfl (hb hby at_48) k) ?_
    show Own.Fin p e below (s₁.setTop (mkF m 49 #[.val (.int p1), .val (.int p2), .val (.int p3), .val (.int p4), .val (.int p5), .val (.int p6), .val (.int (0 : Int32)), .val (.long k1), .second, .val (.long k2), .second, .val (.long k3), .second, .val (.int d1), .val (.int d2), .unset, .unset, .unset, .unset, .unset, .unset, .unset, .unset, .unset, .unset] [(.int (1 : Int32))])) _
    refine Own.go (fun t k => XS.iload X0.here hx rfl (hb hby at_49) rfl k) ?_
    show Own.Fin p e below (s₁.setTop (mkF m 51 #[.val (.int p1), .val (.int p2), .val (.int p3), .val (.int p4), .val (.int p5), .val (.int p6), .val (.int (0 : Int32)), .val (.long k1), .second, .val (.long k2), .second, .val (.long k3), .second, .val (.int d1), .val (.int d2), .unset, .unset, .unset, .unset, .unset, .unset, .unset, .unset, .unset, .unset] [(.int p6), (.int (1 : Int32))])) _
    refine Own.go (fun t k => X0.ldcInt hx hown (mvT hZ (hw _ (List.mem_of_getElem? (i := 0) rfl))) (g := (mkF m 51 #[.val (.int p1), .val (.int p2), .val (.int p3), .val (.int p4), .val (.int p5), .val (.int p6), .val (.int (0 : Int32)), .val (.long k1), .second, .val (.long k2), .second, .val (.long k3), .second, .val (.int d1), .val (.int d2), .unset, .unset, .unset, .unset, .unset, .unset, .unset, .unset, .unset, .unset] [(.int p6), (.int (1 : Int32))])) rfl (hb hby at_51) _ k) ?_
    show Own.Fin p e below (s₁.setTop (mkF m 53 #[.val (.int p1), .val (.int p2), .val (.int p3), .val (.int p4), .val (.int p5), .val (.int p6), .val (.int (0 : Int32)), .val (.long k1), .second, .val (.long k2), .second, .val (.long k3), .second, .val (.int d1), .val (.int d2), .unset, .unset, .unset, .unset, .unset, .unset, .unset, .unset, .unset, .unset] [(.int (1048575 : Int32)), (.int p6), (.int (1 : Int32))])) _
    refine Own.go (fun t k => XS.iand X0.here hx rfl (hb hby at_53) rfl k) ?_
    show Own.Fin p e below (s₁.setTop (mkF m 54 #[.val (.int p1), .val (.int p2), .val (.int p3), .val (.int p4), .val (.int p5), .val (.int p6), .val (.int (0 : Int32)), .val (.long k1), .second, .val (.long k2), .second, .val (.long k3), .second, .val (.int d1), .val (.int d2), .unset, .unset, .unset, .unset, .unset, .unset, .unset, .unset, .unset, .unset] [(.int (p6 &&& (1048575 : Int32))), (.int (1 : Int32))])) _
    refine Own.go (fun t k => XS.iadd X0.here hx rfl (hb hby at_54) rfl k) ?_
    show Own.Fin p e below (s₁.setTop (mkF m 55 #[.val (.int p1), .val (.int p2), .val (.int p3), .val (.int p4), .val (.int p5), .val (.int p6), .val (.int (0 : Int32)), .val (.long k1), .second, .val (.long k2), .second, .val (.long k3), .second, .val (.int d1), .val (.int d2), .unset, .unset, .unset, .unset, .unset, .unset, .unset, .unset, .unset, .unset] [(.int ((1 : Int32) + (p6 &&& (1048575 : Int32))))])) _
    have hd3 : 1 ≤ (((1 : Int32) + (p6 &&& (1048575 : Int32)))).toInt ∧ (((1 : Int32) + (p6 &&& (1048575 : Int32)))).toInt ≤ 1048576 := own_db _
    generalize hd3_ : ((1 : Int32) + (p6 &&& (1048575 : Int32))) = d3 at hd3 ⊢
    refine Own.go (fun t k => XS.istore X0.here hx rfl (hb hby at_55) rfl (l' := #[.val (.int p1), .val (.int p2), .val (.int p3), .val (.int p4), .val (.int p5), .val (.int p6), .val (.int (0 : Int32)), .val (.long k1), .second, .val (.long k2), .second, .val (.long k3), .second, .val (.int d1), .val (.int d2), .val (.int d3), .unset, .unset, .unset, .unset, .unset, .unset, .unset, .unset, .unset]) rfl k) ?_
    show Own.Fin p e below (s₁.setTop (mkF m 57 #[.val (.int p1), .val (.int p2), .val (.int p3), .val (.int p4), .val (.int p5), .val (.int p6), .val (.int (0 : Int32)), .val (.long k1), .second, .val (.long k2), .second, .val (.long k3), .second, .val (.int d1), .val (.int d2), .val (.int d3), .unset, .unset, .unset, .unset, .unset, .unset, .unset, .unset, .unset] [])) _
    obtain ⟨T1, h1, X1, e1, E1, A1, D1, -, st1⟩ := newO X0 hx hZ hown (hw _ (List.mem_of_getElem? (i := 1) rfl)) (hw _ (List.mem_of_getElem? (i := 2) rfl)) (hw _ (List.mem_of_getElem? (i := 3) rfl)) e0 (g := (mkF m 57 #[.val (.int p1), .val (.int p2), .val (.int p3), .val (.int p4), .val (.int p5), .val (.int p6), .val (.int (0 : Int32)), .val (.long k1), .second, .val (.long k2), .second, .val (.long k3), .second, .val (.int d1), .val (.int d2), .val (.int d3), .unset, .unset, .unset, .unset, .unset, .unset, .unset, .unset, .unset] [])) rfl (hb hby at_57) (by decide) (by decide)
    obtain ⟨b1, gb1⟩ : ∃ z, z = h0.size := ⟨_, rfl⟩
    rw [← gb1] at A1 D1 st1
    refine Own.go st1 ?_
    have ge1 : n0 ≤ b1 := by rw [gb1]; exact Z0
    have Z1 : n0 ≤ h1.size := Nat.le_trans Z0 E1.1
    have fl2 : Fld Z h1 b1 "com/example/arachne/arachne/force/StressSum" "pairs" "J" (.long (0 : Int64)) := D1 (Or.inl (hw _ (List.mem_of_getElem? (i := 16) rfl))) (ty := .long) (by decide)
    have fl3 : Fld Z h1 b1 "com/example/arachne/arachne/force/StressSum" "ratios" "D" (.double 0) := D1 (Or.inl (hw _ (List.mem_of_getElem? (i := 23) rfl))) (ty := .double) (by decide)
    have fl4 : Fld Z h1 b1 "com/example/arachne/arachne/force/StressSum" "squares" "D" (.double 0) := D1 (Or.inl (hw _ (List.mem_of_getElem? (i := 25) rfl))) (ty := .double) (by decide)
    show Own.Fin p e below (T1.setTop (mkF m 60 #[.val (.int p1), .val (.int p2), .val (.int p3), .val (.int p4), .val (.int p5), .val (.int p6), .val (.int (0 : Int32)), .val (.long k1), .second, .val (.long k2), .second, .val (.long k3), .second, .val (.int d1), .val (.int d2), .val (.int d3), .unset, .unset, .unset, .unset, .unset, .unset, .unset, .unset, .unset] [(.ref b1)])) _
    have zd5 := Fld.zeroD fl3
    have zd6 := Fld.zeroD fl4
    refine Own.go (fun t k => XS.dup X1.here hx rfl (hb hby at_60) rfl rfl k) ?_
    show Own.Fin p e below (T1.setTop (mkF m 61 #[.val (.int p1), .val (.int p2), .val (.int p3), .val (.int p4), .val (.int p5), .val (.int p6), .val (.int (0 : Int32)), .val (.long k1), .second, .val (.long k2), .second, .val (.long k3), .second, .val (.int d1), .val (.int d2), .val (.int d3), .unset, .unset, .unset, .unset, .unset, .unset, .unset, .unset, .unset] [(.ref b1), (.ref b1)])) _
    refine Own.cI X1 hx hZ rfl hown (hw _ (List.mem_of_getElem? (i := 4) rfl)) (hw _ (List.mem_of_getElem? (i := 5) rfl)) (hw _ (List.mem_of_getElem? (i := 3) rfl)) (hw _ (List.mem_of_getElem? (i := 6) rfl)) (by decide) (rm1 l Z a0 hw [] b1 h1 n0 Z1) (by decide) (W := 1) (by decide) (argsL := []) (rest := [(.ref b1)]) (by rw [hml]; rfl) (lenOf pd_1 rfl) rfl (Nat.le_of_eq rfl) (hb hby at_61) e1 (by decide) (by decide) ?_
    intro T7 L7 v7 X7 hQ7
    obtain ⟨rfl, N7q, e7⟩ := hQ7
    have N7 := Fr.app N0 N7q
    show Own.Fin p e below (T7.setTop (mkF m 64 #[.val (.int p1), .val (.int p2), .val (.int p3), .val (.int p4), .val (.int p5), .val (.int p6), .val (.int (0 : Int32)), .val (.long k1), .second, .val (.long k2), .second, .val (.long k3), .second, .val (.int d1), .val (.int d2), .val (.int d3), .unset, .unset, .unset, .unset, .unset, .unset, .unset, .unset, .unset] [(.ref b1)])) _
    refine Own.go (fun t k => XS.astore X7.here hx rfl (hb hby at_64) rfl rfl (l' := #[.val (.int p1), .val (.int p2), .val (.int p3), .val (.int p4), .val (.int p5), .val (.int p6), .val (.int (0 : Int32)), .val (.long k1), .second, .val (.long k2), .second, .val (.long k3), .second, .val (.int d1), .val (.int d2), .val (.int d3), .val (.ref b1), .unset, .unset, .unset, .unset, .unset, .unset, .unset, .unset]) rfl k) ?_
    show Own.Fin p e below (T7.setTop (mkF m 66 #[.val (.int p1), .val (.int p2), .val (.int p3), .val (.int p4), .val (.int p5), .val (.int p6), .val (.int (0 : Int32)), .val (.long k1), .second, .val (.long k2), .second, .val (.long k3), .second, .val (.int d1), .val (.int d2), .val (.int d3), .val (.ref b1), .unset, .unset, .unset, .unset, .unset, .unset, .unset, .unset] [])) _
    refine Own.go (fun t k => XS.iload X7.here hx rfl (hb hby at_66) rfl k) ?_
    show Own.Fin p e below (T7.setTop (mkF m 68 #[.val (.int p1), .val (.int p2), .val (.int p3), .val (.int p4), .val (.int p5), .val (.int p6), .val (.int (0 : Int32)), .val (.long k1), .second, .val (.long k2), .second, .val (.long k3), .second, .val (.int d1), .val (.int d2), .val (.int d3), .val (.ref b1), .unset, .unset, .unset, .unset, .unset, .unset, .unset, .unset] [(.int (0 : Int32))])) _
    refine Own.go (fun t k => XS.iconst X7.here hx rfl (hb hby at_68) k) ?_
    show Own.Fin p e below (T7.setTop (mkF m 69 #[.val (.int p1), .val (.int p2), .val (.int p3), .val (.int p4), .val (.int p5), .val (.int p6), .val (.int (0 : Int32)), .val (.long k1), .second, .val (.long k2), .second, .val (.long k3), .second, .val (.int d1), .val (.int d2), .val (.int d3), .val (.ref b1), .unset, .unset, .unset, .unset, .unset, .unset, .unset, .unset] [(.int (1 : Int32)), (.int (0 : Int32))])) _
    have hc69_7 : (0 : Int32) < (1 : Int32) := by decide
    refine Own.go (fun t k => XS.icmpYes X7.here hx rfl (pc0 := 69) (pc' := 86) rfl (hb hby at_69) rfl (tlt hc69_7).1 (by decide) (by decide) k) ?_
    show Own.Fin p e below (T7.setTop (mkF m 86 #[.val (.int p1), .val (.int p2), .val (.int p3), .val (.int p4), .val (.int p5), .val (.int p6), .val (.int (0 : Int32)), .val (.long k1), .second, .val (.long k2), .second, .val (.long k3), .second, .val (.int d1), .val (.int d2), .val (.int d3), .val (.ref b1), .unset, .unset, .unset, .unset, .unset, .unset, .unset, .unset] [])) _
    refine Own.go (fun t k => XS.iload X7.here hx rfl (hb hby at_86) rfl k) ?_
    show Own.Fin p e below (T7.setTop (mkF m 88 #[.val (.int p1), .val (.int p2), .val (.int p3), .val (.int p4), .val (.int p5), .val (.int p6), .val (.int (0 : Int32)), .val (.long k1), .second, .val (.long k2), .second, .val (.long k3), .second, .val (.int d1), .val (.int d2), .val (.int d3), .val (.ref b1), .unset, .unset, .unset, .unset, .unset, .unset, .unset, .unset] [(.int (0 : Int32))])) _
    refine Own.go (fun t k => XS.iconst X7.here hx rfl (hb hby at_88) k) ?_
    show Own.Fin p e below (T7.setTop (mkF m 89 #[.val (.int p1), .val (.int p2), .val (.int p3), .val (.int p4), .val (.int p5), .val (.int p6), .val (.int (0 : Int32)), .val (.long k1), .second, .val (.long k2), .second, .val (.long k3), .second, .val (.int d1), .val (.int d2), .val (.int d3), .val (.ref b1), .unset, .unset, .unset, .unset, .unset, .unset, .unset, .unset] [(.int (2 : Int32)), (.int (0 : Int32))])) _
    have hc89_8 : (0 : Int32) < (2 : Int32) := by decide
    refine Own.go (fun t k => XS.icmpYes X7.here hx rfl (pc0 := 89) (pc' := 106) rfl (hb hby at_89) rfl (tlt hc89_8).1 (by decide) (by decide) k) ?_
    show Own.Fin p e below (T7.setTop (mkF m 106 #[.val (.int p1), .val (.int p2), .val (.int p3), .val (.int p4), .val (.int p5), .val (.int p6), .val (.int (0 : Int32)), .val (.long k1), .second, .val (.long k2), .second, .val (.long k3), .second, .val (.int d1), .val (.int d2), .val (.int d3), .val (.ref b1), .unset, .unset, .unset, .unset, .unset, .unset, .unset, .unset] [])) _
    refine Own.go (fun t k => XS.iload X7.here hx rfl (hb hby at_106) rfl k) ?_
    show Own.Fin p e below (T7.setTop (mkF m 108 #[.val (.int p1), .val (.int p2), .val (.int p3), .val (.int p4), .val (.int p5), .val (.int p6), .val (.int (0 : Int32)), .val (.long k1), .second, .val (.long k2), .second, .val (.long k3), .second, .val (.int d1), .val (.int d2), .val (.int d3), .val (.ref b1), .unset, .unset, .unset, .unset, .unset, .unset, .unset, .unset] [(.int (0 : Int32))])) _
    refine Own.go (fun t k => XS.iconst X7.here hx rfl (hb hby at_108) k) ?_
    show Own.Fin p e below (T7.setTop (mkF m 109 #[.val (.int p1), .val (.int p2), .val (.int p3), .val (.int p4), .val (.int p5), .val (.int p6), .val (.int (0 : Int32)), .val (.long k1), .second, .val (.long k2), .second, .val (.long k3), .second, .val (.int d1), .val (.int d2), .val (.int d3), .val (.ref b1), .unset, .unset, .unset, .unset, .unset, .unset, .unset, .unset] [(.int (3 : Int32)), (.int (0 : Int32))])) _
    have hc109_9 : (0 : Int32) < (3 : Int32) := by decide
    refine Own.go (fun t k => XS.icmpYes X7.here hx rfl (pc0 := 109) (pc' := 126) rfl (hb hby at_109) rfl (tlt hc109_9).1 (by decide) (by decide) k) ?_
    show Own.Fin p e below (T7.setTop (mkF m 126 #[.val (.int p1), .val (.int p2), .val (.int p3), .val (.int p4), .val (.int p5), .val (.int p6), .val (.int (0 : Int32)), .val (.long k1), .second, .val (.long k2), .second, .val (.long k3), .second, .val (.int d1), .val (.int d2), .val (.int d3), .val (.ref b1), .unset, .unset, .unset, .unset, .unset, .unset, .unset, .unset] [])) _
    refine Own.go (fun t k => XS.aload X7.here hx rfl (hb hby at_126) rfl rfl k) ?_
    show Own.Fin p e below (T7.setTop (mkF m 128 #[.val (.int p1), .val (.int p2), .val (.int p3), .val (.int p4), .val (.int p5), .val (.int p6), .val (.int (0 : Int32)), .val (.long k1), .second, .val (.long k2), .second, .val (.long k3), .second, .val (.int d1), .val (.int d2), .val (.int d3), .val (.ref b1), .unset, .unset, .unset, .unset, .unset, .unset, .unset, .unset] [(.ref b1)])) _
    have hcs : (0 : Int64).toInt * (0 : Int64).toInt ≤ (0 : Int64).toInt * (0 : Int64).toInt := by
      decide
    refine Own.cV X7 hx hZ hown (hw _ (List.mem_of_getElem? (i := 10) rfl)) (hw _ (List.mem_of_getElem? (i := 11) rfl)) (notFace_of_selects (args := #[]) (mvT hZ (hw _ (List.mem_of_getElem? (i := 13) rfl)))) (hw _ (List.mem_of_getElem? (i := 13) rfl)) (hw _ (List.mem_of_getElem? (i := 12) rfl)) (hw _ (List.mem_of_getElem? (i := 3) rfl)) (hw _ (List.mem_of_getElem? (i := 14) rfl)) (by decide) (rm3 l Z a0 hw [] b1 (0 : Int64) (0 : Int64) (0 : Int64) h1 n0 Z1 fl2 zd5 zd6 ⟨by decide, by decide⟩ ⟨by decide, by decide⟩ ⟨by decide, by decide⟩ hcs) (by decide) (W := 0) (by decide) (argsL := []) (rest := []) A1 (by rw [hml]; rfl) (lenOf pd_2 rfl) rfl (Nat.le_of_eq rfl) (hb hby at_128) e7 (by decide) (by decide) ?_
    intro T11 L11 v11 X11 hQ11
    obtain ⟨rfl, N11q, e11⟩ := hQ11
    have N11 := Fr.app N7 N11q
    show Own.Fin p e below (T11.setTop (mkF m 131 #[.val (.int p1), .val (.int p2), .val (.int p3), .val (.int p4), .val (.int p5), .val (.int p6), .val (.int (0 : Int32)), .val (.long k1), .second, .val (.long k2), .second, .val (.long k3), .second, .val (.int d1), .val (.int d2), .val (.int d3), .val (.ref b1), .unset, .unset, .unset, .unset, .unset, .unset, .unset, .unset] [(.double (F_st (0 : Int64) (0 : Int64) (0 : Int64)))])) _
    refine Own.go (fun t k => XS.dstore X11.here hx rfl (hb hby at_131) rfl (l' := #[.val (.int p1), .val (.int p2), .val (.int p3), .val (.int p4), .val (.int p5), .val (.int p6), .val (.int (0 : Int32)), .val (.long k1), .second, .val (.long k2), .second, .val (.long k3), .second, .val (.int d1), .val (.int d2), .val (.int d3), .val (.ref b1), .val (.double (F_st (0 : Int64) (0 : Int64) (0 : Int64))), .second, .unset, .unset, .unset, .unset, .unset, .unset]) rfl k) ?_
    show Own.Fin p e below (T11.setTop (mkF m 133 #[.val (.int p1), .val (.int p2), .val (.int p3), .val (.int p4), .val (.int p5), .val (.int p6), .val (.int (0 : Int32)), .val (.long k1), .second, .val (.long k2), .second, .val (.long k3), .second, .val (.int d1), .val (.int d2), .val (.int d3), .val (.ref b1), .val (.double (F_st (0 : Int64) (0 : Int64) (0 : Int64))), .second, .unset, .unset, .unset, .unset, .unset, .unset] [])) _
    refine Own.go (fun t k => XS.iload X11.here hx rfl (hb hby at_133) rfl k) ?_
    show Own.Fin p e below (T11.setTop (mkF m 135 #[.val (.int p1), .val (.int p2), .val (.int p3), .val (.int p4), .val (.int p5), .val (.int p6), .val (.int (0 : Int32)), .val (.long k1), .second, .val (.long k2), .second, .val (.long k3), .second, .val (.int d1), .val (.int d2), .val (.int d3), .val (.ref b1), .val (.double (F_st (0 : Int64) (0 : Int64) (0 : Int64))), .second, .unset, .unset, .unset, .unset, .unset, .unset] [(.int (0 : Int32))])) _
    have hc135_11 : (0 : Int32) = (0 : Int32) := by decide
    refine Own.go (fun t k => XS.ifNo X11.here hx rfl (hb hby at_135) rfl ((if0 _ _).trans (teq hc135_11).2) k) ?_
    show Own.Fin p e below (T11.setTop (mkF m 138 #[.val (.int p1), .val (.int p2), .val (.int p3), .val (.int p4), .val (.int p5), .val (.int p6), .val (.int (0 : Int32)), .val (.long k1), .second, .val (.long k2), .second, .val (.long k3), .second, .val (.int d1), .val (.int d2), .val (.int d3), .val (.ref b1), .val (.double (F_st (0 : Int64) (0 : Int64) (0 : Int64))), .second, .unset, .unset, .unset, .unset, .unset, .unset] [])) _
    refine Own.go (fun t k => XS.dload X11.here hx rfl (hb hby at_138) rfl k) ?_
    show Own.Fin p e below (T11.setTop (mkF m 140 #[.val (.int p1), .val (.int p2), .val (.int p3), .val (.int p4), .val (.int p5), .val (.int p6), .val (.int (0 : Int32)), .val (.long k1), .second, .val (.long k2), .second, .val (.long k3), .second, .val (.int d1), .val (.int d2), .val (.int d3), .val (.ref b1), .val (.double (F_st (0 : Int64) (0 : Int64) (0 : Int64))), .second, .unset, .unset, .unset, .unset, .unset, .unset] [(.double (F_st (0 : Int64) (0 : Int64) (0 : Int64)))])) _
    refine Own.go (fun t k => XS.dconst0 X11.here hx rfl (hb hby at_140) own_d0 k) ?_
    show Own.Fin p e below (T11.setTop (mkF m 141 #[.val (.int p1), .val (.int p2), .val (.int p3), .val (.int p4), .val (.int p5), .val (.int p6), .val (.int (0 : Int32)), .val (.long k1), .second, .val (.long k2), .second, .val (.long k3), .second, .val (.int d1), .val (.int d2), .val (.int d3), .val (.ref b1), .val (.double (F_st (0 : Int64) (0 : Int64) (0 : Int64))), .second, .unset, .unset, .unset, .unset, .unset, .unset] [(.double (FP.l2d 0)), (.double (F_st (0 : Int64) (0 : Int64) (0 : Int64)))])) _
    refine Own.go (fun t k => XS.dcmpS (v := (0 : Int32)) X11.here hx rfl (hb hby at_141) rfl (by rw [F_st, if_pos (by decide)]; exact dcmpV_self (own_l2dnn _) _) k) ?_
    show Own.Fin p e below (T11.setTop (mkF m 142 #[.val (.int p1), .val (.int p2), .val (.int p3), .val (.int p4), .val (.int p5), .val (.int p6), .val (.int (0 : Int32)), .val (.long k1), .second, .val (.long k2), .second, .val (.long k3), .second, .val (.int d1), .val (.int d2), .val (.int d3), .val (.ref b1), .val (.double (F_st (0 : Int64) (0 : Int64) (0 : Int64))), .second, .unset, .unset, .unset, .unset, .unset, .unset] [(.int (0 : Int32))])) _
    have hc142_12 : (0 : Int32) = (0 : Int32) := by decide
    refine Own.go (fun t k => XS.ifNo X11.here hx rfl (hb hby at_142) rfl ((if0 _ _).trans (teq hc142_12).2) k) ?_
    show Own.Fin p e below (T11.setTop (mkF m 145 #[.val (.int p1), .val (.int p2), .val (.int p3), .val (.int p4), .val (.int p5), .val (.int p6), .val (.int (0 : Int32)), .val (.long k1), .second, .val (.long k2), .second, .val (.long k3), .second, .val (.int d1), .val (.int d2), .val (.int d3), .val (.ref b1), .val (.double (F_st (0 : Int64) (0 : Int64) (0 : Int64))), .second, .unset, .unset, .unset, .unset, .unset, .unset] [])) _
    refine Own.go (fun t k => XS.iconst X11.here hx rfl (hb hby at_145) k) ?_
    show Own.Fin p e below (T11.setTop (mkF m 146 #[.val (.int p1), .val (.int p2), .val (.int p3), .val (.int p4), .val (.int p5), .val (.int p6), .val (.int (0 : Int32)), .val (.long k1), .second, .val (.long k2), .second, .val (.long k3), .second, .val (.int d1), .val (.int d2), .val (.int d3), .val (.ref b1), .val (.double (F_st (0 : Int64) (0 : Int64) (0 : Int64))), .second, .unset, .unset, .unset, .unset, .unset, .unset] [(.int (1 : Int32))])) _
    refine Own.go (fun t k => XS.goto X11.here hx rfl (pc0 := 146) (pc' := 150) rfl (hb hby at_146) (by decide) (by decide) k) ?_
    show Own.Fin p e below (T11.setTop (mkF m 150 #[.val (.int p1), .val (.int p2), .val (.int p3), .val (.int p4), .val (.int p5), .val (.int p6), .val (.int (0 : Int32)), .val (.long k1), .second, .val (.long k2), .second, .val (.long k3), .second, .val (.int d1), .val (.int d2), .val (.int d3), .val (.ref b1), .val (.double (F_st (0 : Int64) (0 : Int64) (0 : Int64))), .second, .unset, .unset, .unset, .unset, .unset, .unset] [(.int (1 : Int32))])) _
    refine Own.retN X11 hx Bd.notSynchronized (t := .boolean) Bd.returns (by simp) (hb hby at_150) (by decide) (by decide) ?_
    exact ⟨rfl, N11⟩
  · rw [hn4]
    show Own.Fin p e below (s₁.setTop (mkF m 3 #[.val (.int p1), .val (.int p2), .val (.int p3), .val (.int p4), .val (.int p5), .val (.int p6), .unset, .unset, .unset, .unset, .unset, .unset, .unset, .unset, .unset, .unset, .unset, .unset, .unset, .unset, .unset, .unset, .unset, .unset, .unset] [(.int (1 : Int32))])) _
    refine Own.go (fun t k => XS.istore X0.here hx rfl (hb hby at_3) rfl (l' := #[.val (.int p1), .val (.int p2), .val (.int p3), .val (.int p4), .val (.int p5), .val (.int p6), .val (.int (1 : Int32)), .unset, .unset, .unset, .unset, .unset, .unset, .unset, .unset, .unset, .unset, .unset, .unset, .unset, .unset, .unset, .unset, .unset, .unset]) rfl k) ?_
    show Own.Fin p e below (s₁.setTop (mkF m 5 #[.val (.int p1), .val (.int p2), .val (.int p3), .val (.int p4), .val (.int p5), .val (.int p6), .val (.int (1 : Int32)), .unset, .unset, .unset, .unset, .unset, .unset, .unset, .unset, .unset, .unset, .unset, .unset, .unset, .unset, .unset, .unset, .unset, .unset] [])) _
    refine Own.go (fun t k => XS.iloadN X0.here hx rfl (hb hby at_5) rfl k) ?_
    show Own.Fin p e below (s₁.setTop (mkF m 6 #[.val (.int p1), .val (.int p2), .val (.int p3), .val (.int p4), .val (.int p5), .val (.int p6), .val (.int (1 : Int32)), .unset, .unset, .unset, .unset, .unset, .unset, .unset, .unset, .unset, .unset, .unset, .unset, .unset, .unset, .unset, .unset, .unset, .unset] [(.int p1)])) _
    refine Own.go (fun t k => XS.iconst X0.here hx rfl (hb hby at_6) k) ?_
    show Own.Fin p e below (s₁.setTop (mkF m 7 #[.val (.int p1), .val (.int p2), .val (.int p3), .val (.int p4), .val (.int p5), .val (.int p6), .val (.int (1 : Int32)), .unset, .unset, .unset, .unset, .unset, .unset, .unset, .unset, .unset, .unset, .unset, .unset, .unset, .unset, .unset, .unset, .unset, .unset] [(.int (2 : Int32)), (.int p1)])) _
    refine Own.go (fun t k => XS.iushr X0.here hx rfl (hb hby at_7) rfl k) ?_
    show Own.Fin p e below (s₁.setTop (mkF m 8 #[.val (.int p1), .val (.int p2), .val (.int p3), .val (.int p4), .val (.int p5), .val (.int p6), .val (.int (1 : Int32)), .unset, .unset, .unset, .unset, .unset, .unset, .unset, .unset, .unset, .unset, .unset, .unset, .unset, .unset, .unset, .unset, .unset, .unset] [(.int (((p1).toUInt32 >>> ((2 : Int32) &&& 31).toUInt32).toInt32))])) _
    refine Own.go (fun t k => XS.sipush X0.here hx rfl (hb hby at_8) k) ?_
    show Own.Fin p e below (s₁.setTop (mkF m 11 #[.val (.int p1), .val (.int p2), .val (.int p3), .val (.int p4), .val (.int p5), .val (.int p6), .val (.int (1 : Int32)), .unset, .unset, .unset, .unset, .unset, .unset, .unset, .unset, .unset, .unset, .unset, .unset, .unset, .unset, .unset, .unset, .unset, .unset] [(.int (1023 : Int32)), (.int (((p1).toUInt32 >>> ((2 : Int32) &&& 31).toUInt32).toInt32))])) _
    refine Own.go (fun t k => XS.iand X0.here hx rfl (hb hby at_11) rfl k) ?_
    show Own.Fin p e below (s₁.setTop (mkF m 12 #[.val (.int p1), .val (.int p2), .val (.int p3), .val (.int p4), .val (.int p5), .val (.int p6), .val (.int (1 : Int32)), .unset, .unset, .unset, .unset, .unset, .unset, .unset, .unset, .unset, .unset, .unset, .unset, .unset, .unset, .unset, .unset, .unset, .unset] [(.int ((((p1).toUInt32 >>> ((2 : Int32) &&& 31).toUInt32).toInt32) &&& (1023 : Int32)))])) _
    refine Own.go (fun t k => XS.i2l X0.here hx rfl (hb hby at_12) rfl k) ?_
    show Own.Fin p e below (s₁.setTop (mkF m 13 #[.val (.int p1), .val (.int p2), .val (.int p3), .val (.int p4), .val (.int p5), .val (.int p6), .val (.int (1 : Int32)), .unset, .unset, .unset, .unset, .unset, .unset, .unset, .unset, .unset, .unset, .unset, .unset, .unset, .unset, .unset, .unset, .unset, .unset] [(.long ((((((p1).toUInt32 >>> ((2 : Int32) &&& 31).toUInt32).toInt32) &&& (1023 : Int32))).toInt64))])) _
    have hk1 : 0 ≤ (((((((p1).toUInt32 >>> ((2 : Int32) &&& 31).toUInt32).toInt32) &&& (1023 : Int32))).toInt64)).toInt ∧ (((((((p1).toUInt32 >>> ((2 : Int32) &&& 31).toUInt32).toInt32) &&& (1023 : Int32))).toInt64)).toInt ≤ 1023 := own_kb _
    generalize hk1_ : ((((((p1).toUInt32 >>> ((2 : Int32) &&& 31).toUInt32).toInt32) &&& (1023 : Int32))).toInt64) = k1 at hk1 ⊢
    refine Own.go (fun t k => XS.lstore X0.here hx rfl (hb hby at_13) rfl (l' := #[.val (.int p1), .val (.int p2), .val (.int p3), .val (.int p4), .val (.int p5), .val (.int p6), .val (.int (1 : Int32)), .val (.long k1), .second, .unset, .unset, .unset, .unset, .unset, .unset, .unset, .unset, .unset, .unset, .unset, .unset, .unset, .unset, .unset, .unset]) rfl k) ?_
    show Own.Fin p e below (s₁.setTop (mkF m 15 #[.val (.int p1), .val (.int p2), .val (.int p3), .val (.int p4), .val (.int p5), .val (.int p6), .val (.int (1 : Int32)), .val (.long k1), .second, .unset, .unset, .unset, .unset, .unset, .unset, .unset, .unset, .unset, .unset, .unset, .unset, .unset, .unset, .unset, .unset] [])) _
    refine Own.go (fun t k => XS.iloadN X0.here hx rfl (hb hby at_15) rfl k) ?_
    show Own.Fin p e below (s₁.setTop (mkF m 16 #[.val (.int p1), .val (.int p2), .val (.int p3), .val (.int p4), .val (.int p5), .val (.int p6), .val (.int (1 : Int32)), .val (.long k1), .second, .unset, .unset, .unset, .unset, .unset, .unset, .unset, .unset, .unset, .unset, .unset, .unset, .unset, .unset, .unset, .unset] [(.int p2)])) _
    refine Own.go (fun t k => XS.sipush X0.here hx rfl (hb hby at_16) k) ?_
    show Own.Fin p e below (s₁.setTop (mkF m 19 #[.val (.int p1), .val (.int p2), .val (.int p3), .val (.int p4), .val (.int p5), .val (.int p6), .val (.int (1 : Int32)), .val (.long k1), .second, .unset, .unset, .unset, .unset, .unset, .unset, .unset, .unset, .unset, .unset, .unset, .unset, .unset, .unset, .unset, .unset] [(.int (1023 : Int32)), (.int p2)])) _
    refine Own.go (fun t k => XS.iand X0.here hx rfl (hb hby at_19) rfl k) ?_
    show Own.Fin p e below (s₁.setTop (mkF m 20 #[.val (.int p1), .val (.int p2), .val (.int p3), .val (.int p4), .val (.int p5), .val (.int p6), .val (.int (1 : Int32)), .val (.long k1), .second, .unset, .unset, .unset, .unset, .unset, .unset, .unset, .unset, .unset, .unset, .unset, .unset, .unset, .unset, .unset, .unset] [(.int (p2 &&& (1023 : Int32)))])) _
    refine Own.go (fun t k => XS.i2l X0.here hx rfl (hb hby at_20) rfl k) ?_
    show Own.Fin p e below (s₁.setTop (mkF m 21 #[.val (.int p1), .val (.int p2), .val (.int p3), .val (.int p4), .val (.int p5), .val (.int p6), .val (.int (1 : Int32)), .val (.long k1), .second, .unset, .unset, .unset, .unset, .unset, .unset, .unset, .unset, .unset, .unset, .unset, .unset, .unset, .unset, .unset, .unset] [(.long (((p2 &&& (1023 : Int32))).toInt64))])) _
    have hk2 : 0 ≤ ((((p2 &&& (1023 : Int32))).toInt64)).toInt ∧ ((((p2 &&& (1023 : Int32))).toInt64)).toInt ≤ 1023 := own_kb _
    generalize hk2_ : (((p2 &&& (1023 : Int32))).toInt64) = k2 at hk2 ⊢
    refine Own.go (fun t k => XS.lstore X0.here hx rfl (hb hby at_21) rfl (l' := #[.val (.int p1), .val (.int p2), .val (.int p3), .val (.int p4), .val (.int p5), .val (.int p6), .val (.int (1 : Int32)), .val (.long k1), .second, .val (.long k2), .second, .unset, .unset, .unset, .unset, .unset, .unset, .unset, .unset, .unset, .unset, .unset, .unset, .unset, .unset]) rfl k) ?_
    show Own.Fin p e below (s₁.setTop (mkF m 23 #[.val (.int p1), .val (.int p2), .val (.int p3), .val (.int p4), .val (.int p5), .val (.int p6), .val (.int (1 : Int32)), .val (.long k1), .second, .val (.long k2), .second, .unset, .unset, .unset, .unset, .unset, .unset, .unset, .unset, .unset, .unset, .unset, .unset, .unset, .unset] [])) _
    refine Own.go (fun t k => XS.iloadN X0.here hx rfl (hb hby at_23) rfl k) ?_
    show Own.Fin p e below (s₁.setTop (mkF m 24 #[.val (.int p1), .val (.int p2), .val (.int p3), .val (.int p4), .val (.int p5), .val (.int p6), .val (.int (1 : Int32)), .val (.long k1), .second, .val (.long k2), .second, .unset, .unset, .unset, .unset, .unset, .unset, .unset, .unset, .unset, .unset, .unset, .unset, .unset, .unset] [(.int p3)])) _
    refine Own.go (fun t k => XS.sipush X0.here hx rfl (hb hby at_24) k) ?_
    show Own.Fin p e below (s₁.setTop (mkF m 27 #[.val (.int p1), .val (.int p2), .val (.int p3), .val (.int p4), .val (.int p5), .val (.int p6), .val (.int (1 : Int32)), .val (.long k1), .second, .val (.long k2), .second, .unset, .unset, .unset, .unset, .unset, .unset, .unset, .unset, .unset, .unset, .unset, .unset, .unset, .unset] [(.int (1023 : Int32)), (.int p3)])) _
    refine Own.go (fun t k => XS.iand X0.here hx rfl (hb hby at_27) rfl k) ?_
    show Own.Fin p e below (s₁.setTop (mkF m 28 #[.val (.int p1), .val (.int p2), .val (.int p3), .val (.int p4), .val (.int p5), .val (.int p6), .val (.int (1 : Int32)), .val (.long k1), .second, .val (.long k2), .second, .unset, .unset, .unset, .unset, .unset, .unset, .unset, .unset, .unset, .unset, .unset, .unset, .unset, .unset] [(.int (p3 &&& (1023 : Int32)))])) _
    refine Own.go (fun t k => XS.i2l X0.here hx rfl (hb hby at_28) rfl k) ?_
    show Own.Fin p e below (s₁.setTop (mkF m 29 #[.val (.int p1), .val (.int p2), .val (.int p3), .val (.int p4), .val (.int p5), .val (.int p6), .val (.int (1 : Int32)), .val (.long k1), .second, .val (.long k2), .second, .unset, .unset, .unset, .unset, .unset, .unset, .unset, .unset, .unset, .unset, .unset, .unset, .unset, .unset] [(.long (((p3 &&& (1023 : Int32))).toInt64))])) _
    have hk3 : 0 ≤ ((((p3 &&& (1023 : Int32))).toInt64)).toInt ∧ ((((p3 &&& (1023 : Int32))).toInt64)).toInt ≤ 1023 := own_kb _
    generalize hk3_ : (((p3 &&& (1023 : Int32))).toInt64) = k3 at hk3 ⊢
    refine Own.go (fun t k => XS.lstore X0.here hx rfl (hb hby at_29) rfl (l' := #[.val (.int p1), .val (.int p2), .val (.int p3), .val (.int p4), .val (.int p5), .val (.int p6), .val (.int (1 : Int32)), .val (.long k1), .second, .val (.long k2), .second, .val (.long k3), .second, .unset, .unset, .unset, .unset, .unset, .unset, .unset, .unset, .unset, .unset, .unset, .unset]) rfl k) ?_
    show Own.Fin p e below (s₁.setTop (mkF m 31 #[.val (.int p1), .val (.int p2), .val (.int p3), .val (.int p4), .val (.int p5), .val (.int p6), .val (.int (1 : Int32)), .val (.long k1), .second, .val (.long k2), .second, .val (.long k3), .second, .unset, .unset, .unset, .unset, .unset, .unset, .unset, .unset, .unset, .unset, .unset, .unset] [])) _
    refine Own.go (fun t k => XS.iconst X0.here hx rfl (hb hby at_31) k) ?_
    show Own.Fin p e below (s₁.setTop (mkF m 32 #[.val (.int p1), .val (.int p2), .val (.int p3), .val (.int p4), .val (.int p5), .val (.int p6), .val (.int (1 : Int32)), .val (.long k1), .second, .val (.long k2), .second, .val (.long k3), .second, .unset, .unset, .unset, .unset, .unset, .unset, .unset, .unset, .unset, .unset, .unset, .unset] [(.int (1 : Int32))])) _
    refine Own.go (fun t k => XS.iloadN X0.here hx rfl (hb hby at_32) rfl k) ?_
    show Own.Fin p e below (s₁.setTop (mkF m 33 #[.val (.int p1), .val (.int p2), .val (.int p3), .val (.int p4), .val (.int p5), .val (.int p6), .val (.int (1 : Int32)), .val (.long k1), .second, .val (.long k2), .second, .val (.long k3), .second, .unset, .unset, .unset, .unset, .unset, .unset, .unset, .unset, .unset, .unset, .unset, .unset] [(.int p4), (.int (1 : Int32))])) _
    refine Own.go (fun t k => X0.ldcInt hx hown (mvT hZ (hw _ (List.mem_of_getElem? (i := 0) rfl))) (g := (mkF m 33 #[.val (.int p1), .val (.int p2), .val (.int p3), .val (.int p4), .val (.int p5), .val (.int p6), .val (.int (1 : Int32)), .val (.long k1), .second, .val (.long k2), .second, .val (.long k3), .second, .unset, .unset, .unset, .unset, .unset, .unset, .unset, .unset, .unset, .unset, .unset, .unset] [(.int p4), (.int (1 : Int32))])) rfl (hb hby at_33) _ k) ?_
    show Own.Fin p e below (s₁.setTop (mkF m 35 #[.val (.int p1), .val (.int p2), .val (.int p3), .val (.int p4), .val (.int p5), .val (.int p6), .val (.int (1 : Int32)), .val (.long k1), .second, .val (.long k2), .second, .val (.long k3), .second, .unset, .unset, .unset, .unset, .unset, .unset, .unset, .unset, .unset, .unset, .unset, .unset] [(.int (1048575 : Int32)), (.int p4), (.int (1 : Int32))])) _
    refine Own.go (fun t k => XS.iand X0.here hx rfl (hb hby at_35) rfl k) ?_
    show Own.Fin p e below (s₁.setTop (mkF m 36 #[.val (.int p1), .val (.int p2), .val (.int p3), .val (.int p4), .val (.int p5), .val (.int p6), .val (.int (1 : Int32)), .val (.long k1), .second, .val (.long k2), .second, .val (.long k3), .second, .unset, .unset, .unset, .unset, .unset, .unset, .unset, .unset, .unset, .unset, .unset, .unset] [(.int (p4 &&& (1048575 : Int32))), (.int (1 : Int32))])) _
    refine Own.go (fun t k => XS.iadd X0.here hx rfl (hb hby at_36) rfl k) ?_
    show Own.Fin p e below (s₁.setTop (mkF m 37 #[.val (.int p1), .val (.int p2), .val (.int p3), .val (.int p4), .val (.int p5), .val (.int p6), .val (.int (1 : Int32)), .val (.long k1), .second, .val (.long k2), .second, .val (.long k3), .second, .unset, .unset, .unset, .unset, .unset, .unset, .unset, .unset, .unset, .unset, .unset, .unset] [(.int ((1 : Int32) + (p4 &&& (1048575 : Int32))))])) _
    have hd1 : 1 ≤ (((1 : Int32) + (p4 &&& (1048575 : Int32)))).toInt ∧ (((1 : Int32) + (p4 &&& (1048575 : Int32)))).toInt ≤ 1048576 := own_db _
    generalize hd1_ : ((1 : Int32) + (p4 &&& (1048575 : Int32))) = d1 at hd1 ⊢
    refine Own.go (fun t k => XS.istore X0.here hx rfl (hb hby at_37) rfl (l' := #[.val (.int p1), .val (.int p2), .val (.int p3), .val (.int p4), .val (.int p5), .val (.int p6), .val (.int (1 : Int32)), .val (.long k1), .second, .val (.long k2), .second, .val (.long k3), .second, .val (.int d1), .unset, .unset, .unset, .unset, .unset, .unset, .unset, .unset, .unset, .unset, .unset]) rfl k) ?_
    show Own.Fin p e below (s₁.setTop (mkF m 39 #[.val (.int p1), .val (.int p2), .val (.int p3), .val (.int p4), .val (.int p5), .val (.int p6), .val (.int (1 : Int32)), .val (.long k1), .second, .val (.long k2), .second, .val (.long k3), .second, .val (.int d1), .unset, .unset, .unset, .unset, .unset, .unset, .unset, .unset, .unset, .unset, .unset] [])) _
    refine Own.go (fun t k => XS.iconst X0.here hx rfl (hb hby at_39) k) ?_
    show Own.Fin p e below (s₁.setTop (mkF m 40 #[.val (.int p1), .val (.int p2), .val (.int p3), .val (.int p4), .val (.int p5), .val (.int p6), .val (.int (1 : Int32)), .val (.long k1), .second, .val (.long k2), .second, .val (.long k3), .second, .val (.int d1), .unset, .unset, .unset, .unset, .unset, .unset, .unset, .unset, .unset, .unset, .unset] [(.int (1 : Int32))])) _
    refine Own.go (fun t k => XS.iload X0.here hx rfl (hb hby at_40) rfl k) ?_
    show Own.Fin p e below (s₁.setTop (mkF m 42 #[.val (.int p1), .val (.int p2), .val (.int p3), .val (.int p4), .val (.int p5), .val (.int p6), .val (.int (1 : Int32)), .val (.long k1), .second, .val (.long k2), .second, .val (.long k3), .second, .val (.int d1), .unset, .unset, .unset, .unset, .unset, .unset, .unset, .unset, .unset, .unset, .unset] [(.int p5), (.int (1 : Int32))])) _
    refine Own.go (fun t k => X0.ldcInt hx hown (mvT hZ (hw _ (List.mem_of_getElem? (i := 0) rfl))) (g := (mkF m 42 #[.val (.int p1), .val (.int p2), .val (.int p3), .val (.int p4), .val (.int p5), .val (.int p6), .val (.int (1 : Int32)), .val (.long k1), .second, .val (.long k2), .second, .val (.long k3), .second, .val (.int d1), .unset, .unset, .unset, .unset, .unset, .unset, .unset, .unset, .unset, .unset, .unset] [(.int p5), (.int (1 : Int32))])) rfl (hb hby at_42) _ k) ?_
    show Own.Fin p e below (s₁.setTop (mkF m 44 #[.val (.int p1), .val (.int p2), .val (.int p3), .val (.int p4), .val (.int p5), .val (.int p6), .val (.int (1 : Int32)), .val (.long k1), .second, .val (.long k2), .second, .val (.long k3), .second, .val (.int d1), .unset, .unset, .unset, .unset, .unset, .unset, .unset, .unset, .unset, .unset, .unset] [(.int (1048575 : Int32)), (.int p5), (.int (1 : Int32))])) _
    refine Own.go (fun t k => XS.iand X0.here hx rfl (hb hby at_44) rfl k) ?_
    show Own.Fin p e below (s₁.setTop (mkF m 45 #[.val (.int p1), .val (.int p2), .val (.int p3), .val (.int p4), .val (.int p5), .val (.int p6), .val (.int (1 : Int32)), .val (.long k1), .second, .val (.long k2), .second, .val (.long k3), .second, .val (.int d1), .unset, .unset, .unset, .unset, .unset, .unset, .unset, .unset, .unset, .unset, .unset] [(.int (p5 &&& (1048575 : Int32))), (.int (1 : Int32))])) _
    refine Own.go (fun t k => XS.iadd X0.here hx rfl (hb hby at_45) rfl k) ?_
    show Own.Fin p e below (s₁.setTop (mkF m 46 #[.val (.int p1), .val (.int p2), .val (.int p3), .val (.int p4), .val (.int p5), .val (.int p6), .val (.int (1 : Int32)), .val (.long k1), .second, .val (.long k2), .second, .val (.long k3), .second, .val (.int d1), .unset, .unset, .unset, .unset, .unset, .unset, .unset, .unset, .unset, .unset, .unset] [(.int ((1 : Int32) + (p5 &&& (1048575 : Int32))))])) _
    have hd2 : 1 ≤ (((1 : Int32) + (p5 &&& (1048575 : Int32)))).toInt ∧ (((1 : Int32) + (p5 &&& (1048575 : Int32)))).toInt ≤ 1048576 := own_db _
    generalize hd2_ : ((1 : Int32) + (p5 &&& (1048575 : Int32))) = d2 at hd2 ⊢
    refine Own.go (fun t k => XS.istore X0.here hx rfl (hb hby at_46) rfl (l' := #[.val (.int p1), .val (.int p2), .val (.int p3), .val (.int p4), .val (.int p5), .val (.int p6), .val (.int (1 : Int32)), .val (.long k1), .second, .val (.long k2), .second, .val (.long k3), .second, .val (.int d1), .val (.int d2), .unset, .unset, .unset, .unset, .unset, .unset, .unset, .unset, .unset, .unset]) rfl k) ?_
    show Own.Fin p e below (s₁.setTop (mkF m 48 #[.val (.int p1), .val (.int p2), .val (.int p3), .val (.int p4), .val (.int p5), .val (.int p6), .val (.int (1 : Int32)), .val (.long k1), .second, .val (.long k2), .second, .val (.long k3), .second, .val (.int d1), .val (.int d2), .unset, .unset, .unset, .unset, .unset, .unset, .unset, .unset, .unset, .unset] [])) _
    refine Own.go (fun t k => XS.iconst X0.here hx rfl (hb hby at_48) k) ?_
    show Own.Fin p e below (s₁.setTop (mkF m 49 #[.val (.int p1), .val (.int p2), .val (.int p3), .val (.int p4), .val (.int p5), .val (.int p6), .val (.int (1 : Int32)), .val (.long k1), .second, .val (.long k2), .second, .val (.long k3), .second, .val (.int d1), .val (.int d2), .unset, .unset, .unset, .unset, .unset, .unset, .unset, .unset, .unset, .unset] [(.int (1 : Int32))])) _
    refine Own.go (fun t k => XS.iload X0.here hx rfl (hb hby at_49) rfl k) ?_
    show Own.Fin p e below (s₁.setTop (mkF m 51 #[.val (.int p1), .val (.int p2), .val (.int p3), .val (.int p4), .val (.int p5), .val (.int p6), .val (.int (1 : Int32)), .val (.long k1), .second, .val (.long k2), .second, .val (.long k3), .second, .val (.int d1), .val (.int d2), .unset, .unset, .unset, .unset, .unset, .unset, .unset, .unset, .unset, .unset] [(.int p6), (.int (1 : Int32))])) _
    refine Own.go (fun t k => X0.ldcInt hx hown (mvT hZ (hw _ (List.mem_of_getElem? (i := 0) rfl))) (g := (mkF m 51 #[.val (.int p1), .val (.int p2), .val (.int p3), .val (.int p4), .val (.int p5), .val (.int p6), .val (.int (1 : Int32)), .val (.long k1), .second, .val (.long k2), .second, .val (.long k3), .second, .val (.int d1), .val (.int d2), .unset, .unset, .unset, .unset, .unset, .unset, .unset, .unset, .unset, .unset] [(.int p6), (.int (1 : Int32))])) rfl (hb hby at_51) _ k) ?_
    show Own.Fin p e below (s₁.setTop (mkF m 53 #[.val (.int p1), .val (.int p2), .val (.int p3), .val (.int p4), .val (.int p5), .val (.int p6), .val (.int (1 : Int32)), .val (.long k1), .second, .val (.long k2), .second, .val (.long k3), .second, .val (.int d1), .val (.int d2), .unset, .unset, .unset, .unset, .unset, .unset, .unset, .unset, .unset, .unset] [(.int (1048575 : Int32)), (.int p6), (.int (1 : Int32))])) _
    refine Own.go (fun t k => XS.iand X0.here hx rfl (hb hby at_53) rfl k) ?_
    show Own.Fin p e below (s₁.setTop (mkF m 54 #[.val (.int p1), .val (.int p2), .val (.int p3), .val (.int p4), .val (.int p5), .val (.int p6), .val (.int (1 : Int32)), .val (.long k1), .second, .val (.long k2), .second, .val (.long k3), .second, .val (.int d1), .val (.int d2), .unset, .unset, .unset, .unset, .unset, .unset, .unset, .unset, .unset, .unset] [(.int (p6 &&& (1048575 : Int32))), (.int (1 : Int32))])) _
    refine Own.go (fun t k => XS.iadd X0.here hx rfl (hb hby at_54) rfl k) ?_
    show Own.Fin p e below (s₁.setTop (mkF m 55 #[.val (.int p1), .val (.int p2), .val (.int p3), .val (.int p4), .val (.int p5), .val (.int p6), .val (.int (1 : Int32)), .val (.long k1), .second, .val (.long k2), .second, .val (.long k3), .second, .val (.int d1), .val (.int d2), .unset, .unset, .unset, .unset, .unset, .unset, .unset, .unset, .unset, .unset] [(.int ((1 : Int32) + (p6 &&& (1048575 : Int32))))])) _
    have hd3 : 1 ≤ (((1 : Int32) + (p6 &&& (1048575 : Int32)))).toInt ∧ (((1 : Int32) + (p6 &&& (1048575 : Int32)))).toInt ≤ 1048576 := own_db _
    generalize hd3_ : ((1 : Int32) + (p6 &&& (1048575 : Int32))) = d3 at hd3 ⊢
    refine Own.go (fun t k => XS.istore X0.here hx rfl (hb hby at_55) rfl (l' := #[.val (.int p1), .val (.int p2), .val (.int p3), .val (.int p4), .val (.int p5), .val (.int p6), .val (.int (1 : Int32)), .val (.long k1), .second, .val (.long k2), .second, .val (.long k3), .second, .val (.int d1), .val (.int d2), .val (.int d3), .unset, .unset, .unset, .unset, .unset, .unset, .unset, .unset, .unset]) rfl k) ?_
    show Own.Fin p e below (s₁.setTop (mkF m 57 #[.val (.int p1), .val (.int p2), .val (.int p3), .val (.int p4), .val (.int p5), .val (.int p6), .val (.int (1 : Int32)), .val (.long k1), .second, .val (.long k2), .second, .val (.long k3), .second, .val (.int d1), .val (.int d2), .val (.int d3), .unset, .unset, .unset, .unset, .unset, .unset, .unset, .unset, .unset] [])) _
    obtain ⟨T14, h14, X14, e14, E14, A14, D14, -, st14⟩ := newO X0 hx hZ hown (hw _ (List.mem_of_getElem? (i := 1) rfl)) (hw _ (List.mem_of_getElem? (i := 2) rfl)) (hw _ (List.mem_of_getElem? (i := 3) rfl)) e0 (g := (mkF m 57 #[.val (.int p1), .val (.int p2), .val (.int p3), .val (.int p4), .val (.int p5), .val (.int p6), .val (.int (1 : Int32)), .val (.long k1), .second, .val (.long k2), .second, .val (.long k3), .second, .val (.int d1), .val (.int d2), .val (.int d3), .unset, .unset, .unset, .unset, .unset, .unset, .unset, .unset, .unset] [])) rfl (hb hby at_57) (by decide) (by decide)
    obtain ⟨b14, gb14⟩ : ∃ z, z = h0.size := ⟨_, rfl⟩
    rw [← gb14] at A14 D14 st14
    refine Own.go st14 ?_
    have ge14 : n0 ≤ b14 := by rw [gb14]; exact Z0
    have Z14 : n0 ≤ h14.size := Nat.le_trans Z0 E14.1
    have fl15 : Fld Z h14 b14 "com/example/arachne/arachne/force/StressSum" "pairs" "J" (.long (0 : Int64)) := D14 (Or.inl (hw _ (List.mem_of_getElem? (i := 16) rfl))) (ty := .long) (by decide)
    have fl16 : Fld Z h14 b14 "com/example/arachne/arachne/force/StressSum" "ratios" "D" (.double 0) := D14 (Or.inl (hw _ (List.mem_of_getElem? (i := 23) rfl))) (ty := .double) (by decide)
    have fl17 : Fld Z h14 b14 "com/example/arachne/arachne/force/StressSum" "squares" "D" (.double 0) := D14 (Or.inl (hw _ (List.mem_of_getElem? (i := 25) rfl))) (ty := .double) (by decide)
    show Own.Fin p e below (T14.setTop (mkF m 60 #[.val (.int p1), .val (.int p2), .val (.int p3), .val (.int p4), .val (.int p5), .val (.int p6), .val (.int (1 : Int32)), .val (.long k1), .second, .val (.long k2), .second, .val (.long k3), .second, .val (.int d1), .val (.int d2), .val (.int d3), .unset, .unset, .unset, .unset, .unset, .unset, .unset, .unset, .unset] [(.ref b14)])) _
    have zd18 := Fld.zeroD fl16
    have zd19 := Fld.zeroD fl17
    refine Own.go (fun t k => XS.dup X14.here hx rfl (hb hby at_60) rfl rfl k) ?_
    show Own.Fin p e below (T14.setTop (mkF m 61 #[.val (.int p1), .val (.int p2), .val (.int p3), .val (.int p4), .val (.int p5), .val (.int p6), .val (.int (1 : Int32)), .val (.long k1), .second, .val (.long k2), .second, .val (.long k3), .second, .val (.int d1), .val (.int d2), .val (.int d3), .unset, .unset, .unset, .unset, .unset, .unset, .unset, .unset, .unset] [(.ref b14), (.ref b14)])) _
    refine Own.cI X14 hx hZ rfl hown (hw _ (List.mem_of_getElem? (i := 4) rfl)) (hw _ (List.mem_of_getElem? (i := 5) rfl)) (hw _ (List.mem_of_getElem? (i := 3) rfl)) (hw _ (List.mem_of_getElem? (i := 6) rfl)) (by decide) (rm1 l Z a0 hw [] b14 h14 n0 Z14) (by decide) (W := 1) (by decide) (argsL := []) (rest := [(.ref b14)]) (by rw [hml]; rfl) (lenOf pd_1 rfl) rfl (Nat.le_of_eq rfl) (hb hby at_61) e14 (by decide) (by decide) ?_
    intro T20 L20 v20 X20 hQ20
    obtain ⟨rfl, N20q, e20⟩ := hQ20
    have N20 := Fr.app N0 N20q
    show Own.Fin p e below (T20.setTop (mkF m 64 #[.val (.int p1), .val (.int p2), .val (.int p3), .val (.int p4), .val (.int p5), .val (.int p6), .val (.int (1 : Int32)), .val (.long k1), .second, .val (.long k2), .second, .val (.long k3), .second, .val (.int d1), .val (.int d2), .val (.int d3), .unset, .unset, .unset, .unset, .unset, .unset, .unset, .unset, .unset] [(.ref b14)])) _
    refine Own.go (fun t k => XS.astore X20.here hx rfl (hb hby at_64) rfl rfl (l' := #[.val (.int p1), .val (.int p2), .val (.int p3), .val (.int p4), .val (.int p5), .val (.int p6), .val (.int (1 : Int32)), .val (.long k1), .second, .val (.long k2), .second, .val (.long k3), .second, .val (.int d1), .val (.int d2), .val (.int d3), .val (.ref b14), .unset, .unset, .unset, .unset, .unset, .unset, .unset, .unset]) rfl k) ?_
    show Own.Fin p e below (T20.setTop (mkF m 66 #[.val (.int p1), .val (.int p2), .val (.int p3), .val (.int p4), .val (.int p5), .val (.int p6), .val (.int (1 : Int32)), .val (.long k1), .second, .val (.long k2), .second, .val (.long k3), .second, .val (.int d1), .val (.int d2), .val (.int d3), .val (.ref b14), .unset, .unset, .unset, .unset, .unset, .unset, .unset, .unset] [])) _
    refine Own.go (fun t k => XS.iload X20.here hx rfl (hb hby at_66) rfl k) ?_
    show Own.Fin p e below (T20.setTop (mkF m 68 #[.val (.int p1), .val (.int p2), .val (.int p3), .val (.int p4), .val (.int p5), .val (.int p6), .val (.int (1 : Int32)), .val (.long k1), .second, .val (.long k2), .second, .val (.long k3), .second, .val (.int d1), .val (.int d2), .val (.int d3), .val (.ref b14), .unset, .unset, .unset, .unset, .unset, .unset, .unset, .unset] [(.int (1 : Int32))])) _
    refine Own.go (fun t k => XS.iconst X20.here hx rfl (hb hby at_68) k) ?_
    show Own.Fin p e below (T20.setTop (mkF m 69 #[.val (.int p1), .val (.int p2), .val (.int p3), .val (.int p4), .val (.int p5), .val (.int p6), .val (.int (1 : Int32)), .val (.long k1), .second, .val (.long k2), .second, .val (.long k3), .second, .val (.int d1), .val (.int d2), .val (.int d3), .val (.ref b14), .unset, .unset, .unset, .unset, .unset, .unset, .unset, .unset] [(.int (1 : Int32)), (.int (1 : Int32))])) _
    have hc69_20 : ¬ ((1 : Int32) < (1 : Int32)) := by decide
    refine Own.go (fun t k => XS.icmpNo X20.here hx rfl (hb hby at_69) rfl (flt hc69_20).1 k) ?_
    show Own.Fin p e below (T20.setTop (mkF m 72 #[.val (.int p1), .val (.int p2), .val (.int p3), .val (.int p4), .val (.int p5), .val (.int p6), .val (.int (1 : Int32)), .val (.long k1), .second, .val (.long k2), .second, .val (.long k3), .second, .val (.int d1), .val (.int d2), .val (.int d3), .val (.ref b14), .unset, .unset, .unset, .unset, .unset, .unset, .unset, .unset] [])) _
    refine Own.go (fun t k => XS.aload X20.here hx rfl (hb hby at_72) rfl rfl k) ?_
    show Own.Fin p e below (T20.setTop (mkF m 74 #[.val (.int p1), .val (.int p2), .val (.int p3), .val (.int p4), .val (.int p5), .val (.int p6), .val (.int (1 : Int32)), .val (.long k1), .second, .val (.long k2), .second, .val (.long k3), .second, .val (.int d1), .val (.int d2), .val (.int d3), .val (.ref b14), .unset, .unset, .unset, .unset, .unset, .unset, .unset, .unset] [(.ref b14)])) _
    refine Own.go (fun t k => XS.lload X20.here hx rfl (hb hby at_74) rfl k) ?_
    show Own.Fin p e below (T20.setTop (mkF m 76 #[.val (.int p1), .val (.int p2), .val (.int p3), .val (.int p4), .val (.int p5), .val (.int p6), .val (.int (1 : Int32)), .val (.long k1), .second, .val (.long k2), .second, .val (.long k3), .second, .val (.int d1), .val (.int d2), .val (.int d3), .val (.ref b14), .unset, .unset, .unset, .unset, .unset, .unset, .unset, .unset] [(.long k1), (.ref b14)])) _
    refine Own.go (fun t k => XS.iload X20.here hx rfl (hb hby at_76) rfl k) ?_
    show Own.Fin p e below (T20.setTop (mkF m 78 #[.val (.int p1), .val (.int p2), .val (.int p3), .val (.int p4), .val (.int p5), .val (.int p6), .val (.int (1 : Int32)), .val (.long k1), .second, .val (.long k2), .second, .val (.long k3), .second, .val (.int d1), .val (.int d2), .val (.int d3), .val (.ref b14), .unset, .unset, .unset, .unset, .unset, .unset, .unset, .unset] [(.int d1), (.long k1), (.ref b14)])) _
    refine Own.go (fun t k => XS.i2l X20.here hx rfl (hb hby at_78) rfl k) ?_
    show Own.Fin p e below (T20.setTop (mkF m 79 #[.val (.int p1), .val (.int p2), .val (.int p3), .val (.int p4), .val (.int p5), .val (.int p6), .val (.int (1 : Int32)), .val (.long k1), .second, .val (.long k2), .second, .val (.long k3), .second, .val (.int d1), .val (.int d2), .val (.int d3), .val (.ref b14), .unset, .unset, .unset, .unset, .unset, .unset, .unset, .unset] [(.long ((d1).toInt64)), (.long k1), (.ref b14)])) _
    refine Own.go (fun t k => XS.lmul X20.here hx rfl (hb hby at_79) rfl k) ?_
    show Own.Fin p e below (T20.setTop (mkF m 80 #[.val (.int p1), .val (.int p2), .val (.int p3), .val (.int p4), .val (.int p5), .val (.int p6), .val (.int (1 : Int32)), .val (.long k1), .second, .val (.long k2), .second, .val (.long k3), .second, .val (.int d1), .val (.int d2), .val (.int d3), .val (.ref b14), .unset, .unset, .unset, .unset, .unset, .unset, .unset, .unset] [(.long (k1 * ((d1).toInt64))), (.ref b14)])) _
    refine Own.go (fun t k => XS.l2dS X20.here hx rfl (hb hby at_80) rfl rfl k) ?_
    show Own.Fin p e below (T20.setTop (mkF m 81 #[.val (.int p1), .val (.int p2), .val (.int p3), .val (.int p4), .val (.int p5), .val (.int p6), .val (.int (1 : Int32)), .val (.long k1), .second, .val (.long k2), .second, .val (.long k3), .second, .val (.int d1), .val (.int d2), .val (.int d3), .val (.ref b14), .unset, .unset, .unset, .unset, .unset, .unset, .unset, .unset] [(.double (FP.l2d (k1 * ((d1).toInt64)))), (.ref b14)])) _
    refine Own.go (fun t k => XS.iload X20.here hx rfl (hb hby at_81) rfl k) ?_
    show Own.Fin p e below (T20.setTop (mkF m 83 #[.val (.int p1), .val (.int p2), .val (.int p3), .val (.int p4), .val (.int p5), .val (.int p6), .val (.int (1 : Int32)), .val (.long k1), .second, .val (.long k2), .second, .val (.long k3), .second, .val (.int d1), .val (.int d2), .val (.int d3), .val (.ref b14), .unset, .unset, .unset, .unset, .unset, .unset, .unset, .unset] [(.int d1), (.double (FP.l2d (k1 * ((d1).toInt64)))), (.ref b14)])) _
    refine Own.cV X20 hx hZ hown (hw _ (List.mem_of_getElem? (i := 17) rfl)) (hw _ (List.mem_of_getElem? (i := 18) rfl)) (notFace_of_selects (args := #[]) (mvT hZ (hw _ (List.mem_of_getElem? (i := 20) rfl)))) (hw _ (List.mem_of_getElem? (i := 20) rfl)) (hw _ (List.mem_of_getElem? (i := 19) rfl)) (hw _ (List.mem_of_getElem? (i := 3) rfl)) (hw _ (List.mem_of_getElem? (i := 21) rfl)) (by decide) (rm4 l Z a0 hw [] b14 (FP.l2d (k1 * ((d1).toInt64))) d1 k1 (0 : Int64) (0 : Int64) (0 : Int64) h14 n0 Z14 A14 fl15 zd18 zd19 ge14 rfl hk1 hd1 ⟨by decide, by decide⟩ ⟨by decide, by decide⟩) (by decide) (W := 0) (by decide) (argsL := [(.double (FP.l2d (k1 * ((d1).toInt64)))), (.int d1)]) (rest := []) A14 (by rw [hml]; rfl) (lenOf pd_3 rfl) rfl (Nat.le_of_eq rfl) (hb hby at_83) e20 (by decide) (by decide) ?_
    intro T22 L22 v22 X22 hQ22
    obtain ⟨rfl, N22q, K22q, FP22, FR22, FS22⟩ := hQ22
    have N22 := Fr.app N20 N22q
    have f23 := A14.keep K22q
    have Z22 : n0 ≤ T22.heap.size := Nat.le_trans Z14 K22q.1
    rw [show (0 : Int64) + (1 : Int64) = (1 : Int64) by decide] at FP22
    rw [Int64.zero_add] at FR22 FS22
    have hmm1 := own_mulv hk1 hk1 (by decide)
    have hmb1 : 0 ≤ (k1 * k1).toInt ∧ (k1 * k1).toInt ≤ 1046529 := by rw [hmm1.1]; exact hmm1.2
    have hrv1 : k1.toInt = k1.toInt := rfl
    have hr1 := hk1
    have hqv1 : (k1 * k1).toInt = k1.toInt * k1.toInt := hmm1.1
    have hq1 := hmb1
    show Own.Fin p e below (T22.setTop (mkF m 86 #[.val (.int p1), .val (.int p2), .val (.int p3), .val (.int p4), .val (.int p5), .val (.int p6), .val (.int (1 : Int32)), .val (.long k1), .second, .val (.long k2), .second, .val (.long k3), .second, .val (.int d1), .val (.int d2), .val (.int d3), .val (.ref b14), .unset, .unset, .unset, .unset, .unset, .unset, .unset, .unset] [])) _
    refine Own.go (fun t k => XS.iload X22.here hx rfl (hb hby at_86) rfl k) ?_
    show Own.Fin p e below (T22.setTop (mkF m 88 #[.val (.int p1), .val (.int p2), .val (.int p3), .val (.int p4), .val (.int p5), .val (.int p6), .val (.int (1 : Int32)), .val (.long k1), .second, .val (.long k2), .second, .val (.long k3), .second, .val (.int d1), .val (.int d2), .val (.int d3), .val (.ref b14), .unset, .unset, .unset, .unset, .unset, .unset, .unset, .unset] [(.int (1 : Int32))])) _
    refine Own.go (fun t k => XS.iconst X22.here hx rfl (hb hby at_88) k) ?_
    show Own.Fin p e below (T22.setTop (mkF m 89 #[.val (.int p1), .val (.int p2), .val (.int p3), .val (.int p4), .val (.int p5), .val (.int p6), .val (.int (1 : Int32)), .val (.long k1), .second, .val (.long k2), .second, .val (.long k3), .second, .val (.int d1), .val (.int d2), .val (.int d3), .val (.ref b14), .unset, .unset, .unset, .unset, .unset, .unset, .unset, .unset] [(.int (2 : Int32)), (.int (1 : Int32))])) _
    have hc89_23 : (1 : Int32) < (2 : Int32) := by decide
    refine Own.go (fun t k => XS.icmpYes X22.here hx rfl (pc0 := 89) (pc' := 106) rfl (hb hby at_89) rfl (tlt hc89_23).1 (by decide) (by decide) k) ?_
    show Own.Fin p e below (T22.setTop (mkF m 106 #[.val (.int p1), .val (.int p2), .val (.int p3), .val (.int p4), .val (.int p5), .val (.int p6), .val (.int (1 : Int32)), .val (.long k1), .second, .val (.long k2), .second, .val (.long k3), .second, .val (.int d1), .val (.int d2), .val (.int d3), .val (.ref b14), .unset, .unset, .unset, .unset, .unset, .unset, .unset, .unset] [])) _
    refine Own.go (fun t k => XS.iload X22.here hx rfl (hb hby at_106) rfl k) ?_
    show Own.Fin p e below (T22.setTop (mkF m 108 #[.val (.int p1), .val (.int p2), .val (.int p3), .val (.int p4), .val (.int p5), .val (.int p6), .val (.int (1 : Int32)), .val (.long k1), .second, .val (.long k2), .second, .val (.long k3), .second, .val (.int d1), .val (.int d2), .val (.int d3), .val (.ref b14), .unset, .unset, .unset, .unset, .unset, .unset, .unset, .unset] [(.int (1 : Int32))])) _
    refine Own.go (fun t k => XS.iconst X22.here hx rfl (hb hby at_108) k) ?_
    show Own.Fin p e below (T22.setTop (mkF m 109 #[.val (.int p1), .val (.int p2), .val (.int p3), .val (.int p4), .val (.int p5), .val (.int p6), .val (.int (1 : Int32)), .val (.long k1), .second, .val (.long k2), .second, .val (.long k3), .second, .val (.int d1), .val (.int d2), .val (.int d3), .val (.ref b14), .unset, .unset, .unset, .unset, .unset, .unset, .unset, .unset] [(.int (3 : Int32)), (.int (1 : Int32))])) _
    have hc109_24 : (1 : Int32) < (3 : Int32) := by decide
    refine Own.go (fun t k => XS.icmpYes X22.here hx rfl (pc0 := 109) (pc' := 126) rfl (hb hby at_109) rfl (tlt hc109_24).1 (by decide) (by decide) k) ?_
    show Own.Fin p e below (T22.setTop (mkF m 126 #[.val (.int p1), .val (.int p2), .val (.int p3), .val (.int p4), .val (.int p5), .val (.int p6), .val (.int (1 : Int32)), .val (.long k1), .second, .val (.long k2), .second, .val (.long k3), .second, .val (.int d1), .val (.int d2), .val (.int d3), .val (.ref b14), .unset, .unset, .unset, .unset, .unset, .unset, .unset, .unset] [])) _
    refine Own.go (fun t k => XS.aload X22.here hx rfl (hb hby at_126) rfl rfl k) ?_
    show Own.Fin p e below (T22.setTop (mkF m 128 #[.val (.int p1), .val (.int p2), .val (.int p3), .val (.int p4), .val (.int p5), .val (.int p6), .val (.int (1 : Int32)), .val (.long k1), .second, .val (.long k2), .second, .val (.long k3), .second, .val (.int d1), .val (.int d2), .val (.int d3), .val (.ref b14), .unset, .unset, .unset, .unset, .unset, .unset, .unset, .unset] [(.ref b14)])) _
    have hcs : k1.toInt * k1.toInt ≤ (1 : Int64).toInt * (k1 * k1).toInt := by
      rw [hqv1, show (1 : Int64).toInt = 1 by decide, Int.one_mul]; exact Int.le_refl _
    refine Own.cV X22 hx hZ hown (hw _ (List.mem_of_getElem? (i := 10) rfl)) (hw _ (List.mem_of_getElem? (i := 11) rfl)) (notFace_of_selects (args := #[]) (mvT hZ (hw _ (List.mem_of_getElem? (i := 13) rfl)))) (hw _ (List.mem_of_getElem? (i := 13) rfl)) (hw _ (List.mem_of_getElem? (i := 12) rfl)) (hw _ (List.mem_of_getElem? (i := 3) rfl)) (hw _ (List.mem_of_getElem? (i := 14) rfl)) (by decide) (rm3 l Z a0 hw [] b14 (1 : Int64) k1 (k1 * k1) T22.heap n0 Z22 FP22 FR22 FS22 ⟨by decide, by decide⟩ ⟨hr1.1, Int.le_trans hr1.2 (by decide)⟩ ⟨hq1.1, Int.le_trans hq1.2 (by decide)⟩ hcs) (by decide) (W := 0) (by decide) (argsL := []) (rest := []) f23 (by rw [hml]; rfl) (lenOf pd_2 rfl) rfl (Nat.le_of_eq rfl) (hb hby at_128) rfl (by decide) (by decide) ?_
    intro T26 L26 v26 X26 hQ26
    obtain ⟨rfl, N26q, e26⟩ := hQ26
    have N26 := Fr.app N22 N26q
    show Own.Fin p e below (T26.setTop (mkF m 131 #[.val (.int p1), .val (.int p2), .val (.int p3), .val (.int p4), .val (.int p5), .val (.int p6), .val (.int (1 : Int32)), .val (.long k1), .second, .val (.long k2), .second, .val (.long k3), .second, .val (.int d1), .val (.int d2), .val (.int d3), .val (.ref b14), .unset, .unset, .unset, .unset, .unset, .unset, .unset, .unset] [(.double (F_st (1 : Int64) k1 (k1 * k1)))])) _
    refine Own.go (fun t k => XS.dstore X26.here hx rfl (hb hby at_131) rfl (l' := #[.val (.int p1), .val (.int p2), .val (.int p3), .val (.int p4), .val (.int p5), .val (.int p6), .val (.int (1 : Int32)), .val (.long k1), .second, .val (.long k2), .second, .val (.long k3), .second, .val (.int d1), .val (.int d2), .val (.int d3), .val (.ref b14), .val (.double (F_st (1 : Int64) k1 (k1 * k1))), .second, .unset, .unset, .unset, .unset, .unset, .unset]) rfl k) ?_
    show Own.Fin p e below (T26.setTop (mkF m 133 #[.val (.int p1), .val (.int p2), .val (.int p3), .val (.int p4), .val (.int p5), .val (.int p6), .val (.int (1 : Int32)), .val (.long k1), .second, .val (.long k2), .second, .val (.long k3), .second, .val (.int d1), .val (.int d2), .val (.int d3), .val (.ref b14), .val (.double (F_st (1 : Int64) k1 (k1 * k1))), .second, .unset, .unset, .unset, .unset, .unset, .unset] [])) _
    refine Own.go (fun t k => XS.iload X26.here hx rfl (hb hby at_133) rfl k) ?_
    show Own.Fin p e below (T26.setTop (mkF m 135 #[.val (.int p1), .val (.int p2), .val (.int p3), .val (.int p4), .val (.int p5), .val (.int p6), .val (.int (1 : Int32)), .val (.long k1), .second, .val (.long k2), .second, .val (.long k3), .second, .val (.int d1), .val (.int d2), .val (.int d3), .val (.ref b14), .val (.double (F_st (1 : Int64) k1 (k1 * k1))), .second, .unset, .unset, .unset, .unset, .unset, .unset] [(.int (1 : Int32))])) _
    have hc135_26 : ¬ ((1 : Int32) = (0 : Int32)) := by decide
    refine Own.go (fun t k => XS.ifYes X26.here hx rfl (pc0 := 135) (pc' := 151) rfl (hb hby at_135) rfl ((if0 _ _).trans (feq hc135_26).2) (by decide) (by decide) k) ?_
    show Own.Fin p e below (T26.setTop (mkF m 151 #[.val (.int p1), .val (.int p2), .val (.int p3), .val (.int p4), .val (.int p5), .val (.int p6), .val (.int (1 : Int32)), .val (.long k1), .second, .val (.long k2), .second, .val (.long k3), .second, .val (.int d1), .val (.int d2), .val (.int d3), .val (.ref b14), .val (.double (F_st (1 : Int64) k1 (k1 * k1))), .second, .unset, .unset, .unset, .unset, .unset, .unset] [])) _
    refine Own.go (fun t k => XS.lload X26.here hx rfl (hb hby at_151) rfl k) ?_
    show Own.Fin p e below (T26.setTop (mkF m 153 #[.val (.int p1), .val (.int p2), .val (.int p3), .val (.int p4), .val (.int p5), .val (.int p6), .val (.int (1 : Int32)), .val (.long k1), .second, .val (.long k2), .second, .val (.long k3), .second, .val (.int d1), .val (.int d2), .val (.int d3), .val (.ref b14), .val (.double (F_st (1 : Int64) k1 (k1 * k1))), .second, .unset, .unset, .unset, .unset, .unset, .unset] [(.long k1)])) _
    refine Own.go (fun t k => XS.lstore X26.here hx rfl (hb hby at_153) rfl (l' := #[.val (.int p1), .val (.int p2), .val (.int p3), .val (.int p4), .val (.int p5), .val (.int p6), .val (.int (1 : Int32)), .val (.long k1), .second, .val (.long k2), .second, .val (.long k3), .second, .val (.int d1), .val (.int d2), .val (.int d3), .val (.ref b14), .val (.double (F_st (1 : Int64) k1 (k1 * k1))), .second, .val (.long k1), .second, .unset, .unset, .unset, .unset]) rfl k) ?_
    show Own.Fin p e below (T26.setTop (mkF m 155 #[.val (.int p1), .val (.int p2), .val (.int p3), .val (.int p4), .val (.int p5), .val (.int p6), .val (.int (1 : Int32)), .val (.long k1), .second, .val (.long k2), .second, .val (.long k3), .second, .val (.int d1), .val (.int d2), .val (.int d3), .val (.ref b14), .val (.double (F_st (1 : Int64) k1 (k1 * k1))), .second, .val (.long k1), .second, .unset, .unset, .unset, .unset] [])) _
    refine Own.go (fun t k => XS.lload X26.here hx rfl (hb hby at_155) rfl k) ?_
    show Own.Fin p e below (T26.setTop (mkF m 157 #[.val (.int p1), .val (.int p2), .val (.int p3), .val (.int p4), .val (.int p5), .val (.int p6), .val (.int (1 : Int32)), .val (.long k1), .second, .val (.long k2), .second, .val (.long k3), .second, .val (.int d1), .val (.int d2), .val (.int d3), .val (.ref b14), .val (.double (F_st (1 : Int64) k1 (k1 * k1))), .second, .val (.long k1), .second, .unset, .unset, .unset, .unset] [(.long k1)])) _
    refine Own.go (fun t k => XS.lload X26.here hx rfl (hb hby at_157) rfl k) ?_
    show Own.Fin p e below (T26.setTop (mkF m 159 #[.val (.int p1), .val (.int p2), .val (.int p3), .val (.int p4), .val (.int p5), .val (.int p6), .val (.int (1 : Int32)), .val (.long k1), .second, .val (.long k2), .second, .val (.long k3), .second, .val (.int d1), .val (.int d2), .val (.int d3), .val (.ref b14), .val (.double (F_st (1 : Int64) k1 (k1 * k1))), .second, .val (.long k1), .second, .unset, .unset, .unset, .unset] [(.long k1), (.long k1)])) _
    refine Own.go (fun t k => XS.lmul X26.here hx rfl (hb hby at_159) rfl k) ?_
    show Own.Fin p e below (T26.setTop (mkF m 160 #[.val (.int p1), .val (.int p2), .val (.int p3), .val (.int p4), .val (.int p5), .val (.int p6), .val (.int (1 : Int32)), .val (.long k1), .second, .val (.long k2), .second, .val (.long k3), .second, .val (.int d1), .val (.int d2), .val (.int d3), .val (.ref b14), .val (.double (F_st (1 : Int64) k1 (k1 * k1))), .second, .val (.long k1), .second, .unset, .unset, .unset, .unset] [(.long (k1 * k1))])) _
    refine Own.go (fun t k => XS.lstore X26.here hx rfl (hb hby at_160) rfl (l' := #[.val (.int p1), .val (.int p2), .val (.int p3), .val (.int p4), .val (.int p5), .val (.int p6), .val (.int (1 : Int32)), .val (.long k1), .second, .val (.long k2), .second, .val (.long k3), .second, .val (.int d1), .val (.int d2), .val (.int d3), .val (.ref b14), .val (.double (F_st (1 : Int64) k1 (k1 * k1))), .second, .val (.long k1), .second, .val (.long (k1 * k1)), .second, .unset, .unset]) rfl k) ?_
    show Own.Fin p e below (T26.setTop (mkF m 162 #[.val (.int p1), .val (.int p2), .val (.int p3), .val (.int p4), .val (.int p5), .val (.int p6), .val (.int (1 : Int32)), .val (.long k1), .second, .val (.long k2), .second, .val (.long k3), .second, .val (.int d1), .val (.int d2), .val (.int d3), .val (.ref b14), .val (.double (F_st (1 : Int64) k1 (k1 * k1))), .second, .val (.long k1), .second, .val (.long (k1 * k1)), .second, .unset, .unset] [])) _
    refine Own.go (fun t k => XS.iload X26.here hx rfl (hb hby at_162) rfl k) ?_
    show Own.Fin p e below (T26.setTop (mkF m 164 #[.val (.int p1), .val (.int p2), .val (.int p3), .val (.int p4), .val (.int p5), .val (.int p6), .val (.int (1 : Int32)), .val (.long k1), .second, .val (.long k2), .second, .val (.long k3), .second, .val (.int d1), .val (.int d2), .val (.int d3), .val (.ref b14), .val (.double (F_st (1 : Int64) k1 (k1 * k1))), .second, .val (.long k1), .second, .val (.long (k1 * k1)), .second, .unset, .unset] [(.int (1 : Int32))])) _
    refine Own.go (fun t k => XS.iconst X26.here hx rfl (hb hby at_164) k) ?_
    show Own.Fin p e below (T26.setTop (mkF m 165 #[.val (.int p1), .val (.int p2), .val (.int p3), .val (.int p4), .val (.int p5), .val (.int p6), .val (.int (1 : Int32)), .val (.long k1), .second, .val (.long k2), .second, .val (.long k3), .second, .val (.int d1), .val (.int d2), .val (.int d3), .val (.ref b14), .val (.double (F_st (1 : Int64) k1 (k1 * k1))), .second, .val (.long k1), .second, .val (.long (k1 * k1)), .second, .unset, .unset] [(.int (2 : Int32)), (.int (1 : Int32))])) _
    have hc165_27 : (1 : Int32) < (2 : Int32) := by decide
    refine Own.go (fun t k => XS.icmpYes X26.here hx rfl (pc0 := 165) (pc' := 185) rfl (hb hby at_165) rfl (tlt hc165_27).1 (by decide) (by decide) k) ?_
    show Own.Fin p e below (T26.setTop (mkF m 185 #[.val (.int p1), .val (.int p2), .val (.int p3), .val (.int p4), .val (.int p5), .val (.int p6), .val (.int (1 : Int32)), .val (.long k1), .second, .val (.long k2), .second, .val (.long k3), .second, .val (.int d1), .val (.int d2), .val (.int d3), .val (.ref b14), .val (.double (F_st (1 : Int64) k1 (k1 * k1))), .second, .val (.long k1), .second, .val (.long (k1 * k1)), .second, .unset, .unset] [])) _
    refine Own.go (fun t k => XS.iload X26.here hx rfl (hb hby at_185) rfl k) ?_
    show Own.Fin p e below (T26.setTop (mkF m 187 #[.val (.int p1), .val (.int p2), .val (.int p3), .val (.int p4), .val (.int p5), .val (.int p6), .val (.int (1 : Int32)), .val (.long k1), .second, .val (.long k2), .second, .val (.long k3), .second, .val (.int d1), .val (.int d2), .val (.int d3), .val (.ref b14), .val (.double (F_st (1 : Int64) k1 (k1 * k1))), .second, .val (.long k1), .second, .val (.long (k1 * k1)), .second, .unset, .unset] [(.int (1 : Int32))])) _
    refine Own.go (fun t k => XS.iconst X26.here hx rfl (hb hby at_187) k) ?_
    show Own.Fin p e below (T26.setTop (mkF m 188 #[.val (.int p1), .val (.int p2), .val (.int p3), .val (.int p4), .val (.int p5), .val (.int p6), .val (.int (1 : Int32)), .val (.long k1), .second, .val (.long k2), .second, .val (.long k3), .second, .val (.int d1), .val (.int d2), .val (.int d3), .val (.ref b14), .val (.double (F_st (1 : Int64) k1 (k1 * k1))), .second, .val (.long k1), .second, .val (.long (k1 * k1)), .second, .unset, .unset] [(.int (3 : Int32)), (.int (1 : Int32))])) _
    have hc188_28 : (1 : Int32) < (3 : Int32) := by decide
    refine Own.go (fun t k => XS.icmpYes X26.here hx rfl (pc0 := 188) (pc' := 208) rfl (hb hby at_188) rfl (tlt hc188_28).1 (by decide) (by decide) k) ?_
    show Own.Fin p e below (T26.setTop (mkF m 208 #[.val (.int p1), .val (.int p2), .val (.int p3), .val (.int p4), .val (.int p5), .val (.int p6), .val (.int (1 : Int32)), .val (.long k1), .second, .val (.long k2), .second, .val (.long k3), .second, .val (.int d1), .val (.int d2), .val (.int d3), .val (.ref b14), .val (.double (F_st (1 : Int64) k1 (k1 * k1))), .second, .val (.long k1), .second, .val (.long (k1 * k1)), .second, .unset, .unset] [])) _
    refine Own.go (fun t k => XS.lload X26.here hx rfl (hb hby at_208) rfl k) ?_
    show Own.Fin p e below (T26.setTop (mkF m 210 #[.val (.int p1), .val (.int p2), .val (.int p3), .val (.int p4), .val (.int p5), .val (.int p6), .val (.int (1 : Int32)), .val (.long k1), .second, .val (.long k2), .second, .val (.long k3), .second, .val (.int d1), .val (.int d2), .val (.int d3), .val (.ref b14), .val (.double (F_st (1 : Int64) k1 (k1 * k1))), .second, .val (.long k1), .second, .val (.long (k1 * k1)), .second, .unset, .unset] [(.long (k1 * k1))])) _
    refine Own.go (fun t k => XS.lconst X26.here hx rfl (hb hby at_210) k) ?_
    show Own.Fin p e below (T26.setTop (mkF m 211 #[.val (.int p1), .val (.int p2), .val (.int p3), .val (.int p4), .val (.int p5), .val (.int p6), .val (.int (1 : Int32)), .val (.long k1), .second, .val (.long k2), .second, .val (.long k3), .second, .val (.int d1), .val (.int d2), .val (.int d3), .val (.ref b14), .val (.double (F_st (1 : Int64) k1 (k1 * k1))), .second, .val (.long k1), .second, .val (.long (k1 * k1)), .second, .unset, .unset] [(.long (0 : Int64)), (.long (k1 * k1))])) _
    refine Own.go (fun t k => XS.lcmp X26.here hx rfl (hb hby at_211) rfl k) ?_
    show Own.Fin p e below (T26.setTop (mkF m 212 #[.val (.int p1), .val (.int p2), .val (.int p3), .val (.int p4), .val (.int p5), .val (.int p6), .val (.int (1 : Int32)), .val (.long k1), .second, .val (.long k2), .second, .val (.long k3), .second, .val (.int d1), .val (.int d2), .val (.int d3), .val (.ref b14), .val (.double (F_st (1 : Int64) k1 (k1 * k1))), .second, .val (.long k1), .second, .val (.long (k1 * k1)), .second, .unset, .unset] [(.int (lcmpW (k1 * k1) (0 : Int64)))])) _
    by_cases hc212_29 : (lcmpW (k1 * k1) (0 : Int64)) = (0 : Int32)
    · skip
      refine Own.go (fun t k => XS.ifNo X26.here hx rfl (hb hby at_212) rfl ((if0 _ _).trans (teq hc212_29).2) k) ?_
      show Own.Fin p e below (T26.setTop (mkF m 215 #[.val (.int p1), .val (.int p2), .val (.int p3), .val (.int p4), .val (.int p5), .val (.int p6), .val (.int (1 : Int32)), .val (.long k1), .second, .val (.long k2), .second, .val (.long k3), .second, .val (.int d1), .val (.int d2), .val (.int d3), .val (.ref b14), .val (.double (F_st (1 : Int64) k1 (k1 * k1))), .second, .val (.long k1), .second, .val (.long (k1 * k1)), .second, .unset, .unset] [])) _
      refine Own.go (fun t k => XS.dload X26.here hx rfl (hb hby at_215) rfl k) ?_
      show Own.Fin p e below (T26.setTop (mkF m 217 #[.val (.int p1), .val (.int p2), .val (.int p3), .val (.int p4), .val (.int p5), .val (.int p6), .val (.int (1 : Int32)), .val (.long k1), .second, .val (.long k2), .second, .val (.long k3), .second, .val (.int d1), .val (.int d2), .val (.int d3), .val (.ref b14), .val (.double (F_st (1 : Int64) k1 (k1 * k1))), .second, .val (.long k1), .second, .val (.long (k1 * k1)), .second, .unset, .unset] [(.double (F_st (1 : Int64) k1 (k1 * k1)))])) _
      refine Own.go (fun t k => XS.dconst1 X26.here hx rfl (hb hby at_217) own_d1 k) ?_
      show Own.Fin p e below (T26.setTop (mkF m 218 #[.val (.int p1), .val (.int p2), .val (.int p3), .val (.int p4), .val (.int p5), .val (.int p6), .val (.int (1 : Int32)), .val (.long k1), .second, .val (.long k2), .second, .val (.long k3), .second, .val (.int d1), .val (.int d2), .val (.int d3), .val (.ref b14), .val (.double (F_st (1 : Int64) k1 (k1 * k1))), .second, .val (.long k1), .second, .val (.long (k1 * k1)), .second, .unset, .unset] [(.double (FP.l2d 1)), (.double (F_st (1 : Int64) k1 (k1 * k1)))])) _
      refine Own.go (fun t k => XS.dcmpS (v := (0 : Int32)) X26.here hx rfl (hb hby at_218) rfl (by rw [F_st, if_neg (by decide), if_pos hc212_29]; exact dcmpV_self (own_l2dnn _) _) k) ?_
      show Own.Fin p e below (T26.setTop (mkF m 219 #[.val (.int p1), .val (.int p2), .val (.int p3), .val (.int p4), .val (.int p5), .val (.int p6), .val (.int (1 : Int32)), .val (.long k1), .second, .val (.long k2), .second, .val (.long k3), .second, .val (.int d1), .val (.int d2), .val (.int d3), .val (.ref b14), .val (.double (F_st (1 : Int64) k1 (k1 * k1))), .second, .val (.long k1), .second, .val (.long (k1 * k1)), .second, .unset, .unset] [(.int (0 : Int32))])) _
      have hc219_30 : (0 : Int32) = (0 : Int32) := by decide
      refine Own.go (fun t k => XS.ifNo X26.here hx rfl (hb hby at_219) rfl ((if0 _ _).trans (teq hc219_30).2) k) ?_
      show Own.Fin p e below (T26.setTop (mkF m 222 #[.val (.int p1), .val (.int p2), .val (.int p3), .val (.int p4), .val (.int p5), .val (.int p6), .val (.int (1 : Int32)), .val (.long k1), .second, .val (.long k2), .second, .val (.long k3), .second, .val (.int d1), .val (.int d2), .val (.int d3), .val (.ref b14), .val (.double (F_st (1 : Int64) k1 (k1 * k1))), .second, .val (.long k1), .second, .val (.long (k1 * k1)), .second, .unset, .unset] [])) _
      refine Own.go (fun t k => XS.iconst X26.here hx rfl (hb hby at_222) k) ?_
      show Own.Fin p e below (T26.setTop (mkF m 223 #[.val (.int p1), .val (.int p2), .val (.int p3), .val (.int p4), .val (.int p5), .val (.int p6), .val (.int (1 : Int32)), .val (.long k1), .second, .val (.long k2), .second, .val (.long k3), .second, .val (.int d1), .val (.int d2), .val (.int d3), .val (.ref b14), .val (.double (F_st (1 : Int64) k1 (k1 * k1))), .second, .val (.long k1), .second, .val (.long (k1 * k1)), .second, .unset, .unset] [(.int (1 : Int32))])) _
      refine Own.go (fun t k => XS.goto X26.here hx rfl (pc0 := 223) (pc' := 227) rfl (hb hby at_223) (by decide) (by decide) k) ?_
      show Own.Fin p e below (T26.setTop (mkF m 227 #[.val (.int p1), .val (.int p2), .val (.int p3), .val (.int p4), .val (.int p5), .val (.int p6), .val (.int (1 : Int32)), .val (.long k1), .second, .val (.long k2), .second, .val (.long k3), .second, .val (.int d1), .val (.int d2), .val (.int d3), .val (.ref b14), .val (.double (F_st (1 : Int64) k1 (k1 * k1))), .second, .val (.long k1), .second, .val (.long (k1 * k1)), .second, .unset, .unset] [(.int (1 : Int32))])) _
      refine Own.retN X26 hx Bd.notSynchronized (t := .boolean) Bd.returns (by simp) (hb hby at_227) (by decide) (by decide) ?_
      exact ⟨rfl, N26⟩
    · skip
      refine Own.go (fun t k => XS.ifYes X26.here hx rfl (pc0 := 212) (pc' := 228) rfl (hb hby at_212) rfl ((if0 _ _).trans (feq hc212_29).2) (by decide) (by decide) k) ?_
      show Own.Fin p e below (T26.setTop (mkF m 228 #[.val (.int p1), .val (.int p2), .val (.int p3), .val (.int p4), .val (.int p5), .val (.int p6), .val (.int (1 : Int32)), .val (.long k1), .second, .val (.long k2), .second, .val (.long k3), .second, .val (.int d1), .val (.int d2), .val (.int d3), .val (.ref b14), .val (.double (F_st (1 : Int64) k1 (k1 * k1))), .second, .val (.long k1), .second, .val (.long (k1 * k1)), .second, .unset, .unset] [])) _
      refine Own.go (fun t k => XS.dconst1 X26.here hx rfl (hb hby at_228) own_d1 k) ?_
      show Own.Fin p e below (T26.setTop (mkF m 229 #[.val (.int p1), .val (.int p2), .val (.int p3), .val (.int p4), .val (.int p5), .val (.int p6), .val (.int (1 : Int32)), .val (.long k1), .second, .val (.long k2), .second, .val (.long k3), .second, .val (.int d1), .val (.int d2), .val (.int d3), .val (.ref b14), .val (.double (F_st (1 : Int64) k1 (k1 * k1))), .second, .val (.long k1), .second, .val (.long (k1 * k1)), .second, .unset, .unset] [(.double (FP.l2d 1))])) _
      refine Own.go (fun t k => XS.lload X26.here hx rfl (hb hby at_229) rfl k) ?_
      show Own.Fin p e below (T26.setTop (mkF m 231 #[.val (.int p1), .val (.int p2), .val (.int p3), .val (.int p4), .val (.int p5), .val (.int p6), .val (.int (1 : Int32)), .val (.long k1), .second, .val (.long k2), .second, .val (.long k3), .second, .val (.int d1), .val (.int d2), .val (.int d3), .val (.ref b14), .val (.double (F_st (1 : Int64) k1 (k1 * k1))), .second, .val (.long k1), .second, .val (.long (k1 * k1)), .second, .unset, .unset] [(.long k1), (.double (FP.l2d 1))])) _
      refine Own.go (fun t k => XS.lload X26.here hx rfl (hb hby at_231) rfl k) ?_
      show Own.Fin p e below (T26.setTop (mkF m 233 #[.val (.int p1), .val (.int p2), .val (.int p3), .val (.int p4), .val (.int p5), .val (.int p6), .val (.int (1 : Int32)), .val (.long k1), .second, .val (.long k2), .second, .val (.long k3), .second, .val (.int d1), .val (.int d2), .val (.int d3), .val (.ref b14), .val (.double (F_st (1 : Int64) k1 (k1 * k1))), .second, .val (.long k1), .second, .val (.long (k1 * k1)), .second, .unset, .unset] [(.long k1), (.long k1), (.double (FP.l2d 1))])) _
      refine Own.go (fun t k => XS.lmul X26.here hx rfl (hb hby at_233) rfl k) ?_
      show Own.Fin p e below (T26.setTop (mkF m 234 #[.val (.int p1), .val (.int p2), .val (.int p3), .val (.int p4), .val (.int p5), .val (.int p6), .val (.int (1 : Int32)), .val (.long k1), .second, .val (.long k2), .second, .val (.long k3), .second, .val (.int d1), .val (.int d2), .val (.int d3), .val (.ref b14), .val (.double (F_st (1 : Int64) k1 (k1 * k1))), .second, .val (.long k1), .second, .val (.long (k1 * k1)), .second, .unset, .unset] [(.long (k1 * k1)), (.double (FP.l2d 1))])) _
      refine Own.go (fun t k => XS.l2dS X26.here hx rfl (hb hby at_234) rfl rfl k) ?_
      show Own.Fin p e below (T26.setTop (mkF m 235 #[.val (.int p1), .val (.int p2), .val (.int p3), .val (.int p4), .val (.int p5), .val (.int p6), .val (.int (1 : Int32)), .val (.long k1), .second, .val (.long k2), .second, .val (.long k3), .second, .val (.int d1), .val (.int d2), .val (.int d3), .val (.ref b14), .val (.double (F_st (1 : Int64) k1 (k1 * k1))), .second, .val (.long k1), .second, .val (.long (k1 * k1)), .second, .unset, .unset] [(.double (FP.l2d (k1 * k1))), (.double (FP.l2d 1))])) _
      refine Own.go (fun t k => XS.iload X26.here hx rfl (hb hby at_235) rfl k) ?_
      show Own.Fin p e below (T26.setTop (mkF m 237 #[.val (.int p1), .val (.int p2), .val (.int p3), .val (.int p4), .val (.int p5), .val (.int p6), .val (.int (1 : Int32)), .val (.long k1), .second, .val (.long k2), .second, .val (.long k3), .second, .val (.int d1), .val (.int d2), .val (.int d3), .val (.ref b14), .val (.double (F_st (1 : Int64) k1 (k1 * k1))), .second, .val (.long k1), .second, .val (.long (k1 * k1)), .second, .unset, .unset] [(.int (1 : Int32)), (.double (FP.l2d (k1 * k1))), (.double (FP.l2d 1))])) _
      refine Own.go (fun t k => XS.i2l X26.here hx rfl (hb hby at_237) rfl k) ?_
      show Own.Fin p e below (T26.setTop (mkF m 238 #[.val (.int p1), .val (.int p2), .val (.int p3), .val (.int p4), .val (.int p5), .val (.int p6), .val (.int (1 : Int32)), .val (.long k1), .second, .val (.long k2), .second, .val (.long k3), .second, .val (.int d1), .val (.int d2), .val (.int d3), .val (.ref b14), .val (.double (F_st (1 : Int64) k1 (k1 * k1))), .second, .val (.long k1), .second, .val (.long (k1 * k1)), .second, .unset, .unset] [(.long (((1 : Int32)).toInt64)), (.double (FP.l2d (k1 * k1))), (.double (FP.l2d 1))])) _
      rw [show ((1 : Int32)).toInt64 = (1 : Int64) by decide]
      show Own.Fin p e below (T26.setTop (mkF m 238 #[.val (.int p1), .val (.int p2), .val (.int p3), .val (.int p4), .val (.int p5), .val (.int p6), .val (.int (1 : Int32)), .val (.long k1), .second, .val (.long k2), .second, .val (.long k3), .second, .val (.int d1), .val (.int d2), .val (.int d3), .val (.ref b14), .val (.double (F_st (1 : Int64) k1 (k1 * k1))), .second, .val (.long k1), .second, .val (.long (k1 * k1)), .second, .unset, .unset] [(.long (1 : Int64)), (.double (FP.l2d (k1 * k1))), (.double (FP.l2d 1))])) _
      refine Own.go (fun t k => XS.lload X26.here hx rfl (hb hby at_238) rfl k) ?_
      show Own.Fin p e below (T26.setTop (mkF m 240 #[.val (.int p1), .val (.int p2), .val (.int p3), .val (.int p4), .val (.int p5), .val (.int p6), .val (.int (1 : Int32)), .val (.long k1), .second, .val (.long k2), .second, .val (.long k3), .second, .val (.int d1), .val (.int d2), .val (.int d3), .val (.ref b14), .val (.double (F_st (1 : Int64) k1 (k1 * k1))), .second, .val (.long k1), .second, .val (.long (k1 * k1)), .second, .unset, .unset] [(.long (k1 * k1)), (.long (1 : Int64)), (.double (FP.l2d (k1 * k1))), (.double (FP.l2d 1))])) _
      refine Own.go (fun t k => XS.lmul X26.here hx rfl (hb hby at_240) rfl k) ?_
      show Own.Fin p e below (T26.setTop (mkF m 241 #[.val (.int p1), .val (.int p2), .val (.int p3), .val (.int p4), .val (.int p5), .val (.int p6), .val (.int (1 : Int32)), .val (.long k1), .second, .val (.long k2), .second, .val (.long k3), .second, .val (.int d1), .val (.int d2), .val (.int d3), .val (.ref b14), .val (.double (F_st (1 : Int64) k1 (k1 * k1))), .second, .val (.long k1), .second, .val (.long (k1 * k1)), .second, .unset, .unset] [(.long ((1 : Int64) * (k1 * k1))), (.double (FP.l2d (k1 * k1))), (.double (FP.l2d 1))])) _
      refine Own.go (fun t k => XS.l2dS X26.here hx rfl (hb hby at_241) rfl rfl k) ?_
      show Own.Fin p e below (T26.setTop (mkF m 242 #[.val (.int p1), .val (.int p2), .val (.int p3), .val (.int p4), .val (.int p5), .val (.int p6), .val (.int (1 : Int32)), .val (.long k1), .second, .val (.long k2), .second, .val (.long k3), .second, .val (.int d1), .val (.int d2), .val (.int d3), .val (.ref b14), .val (.double (F_st (1 : Int64) k1 (k1 * k1))), .second, .val (.long k1), .second, .val (.long (k1 * k1)), .second, .unset, .unset] [(.double (FP.l2d ((1 : Int64) * (k1 * k1)))), (.double (FP.l2d (k1 * k1))), (.double (FP.l2d 1))])) _
      refine Own.go (fun t k => XS.ddivS X26.here hx rfl (hb hby at_242) rfl (own_nn (own_x ⟨by decide, by decide⟩ ⟨hr1.1, Int.le_trans hr1.2 (by decide)⟩ ⟨hq1.1, Int.le_trans hq1.2 (by decide)⟩ hcs (by decide) hc212_29).1) rfl k) ?_
      show Own.Fin p e below (T26.setTop (mkF m 243 #[.val (.int p1), .val (.int p2), .val (.int p3), .val (.int p4), .val (.int p5), .val (.int p6), .val (.int (1 : Int32)), .val (.long k1), .second, .val (.long k2), .second, .val (.long k3), .second, .val (.int d1), .val (.int d2), .val (.int d3), .val (.ref b14), .val (.double (F_st (1 : Int64) k1 (k1 * k1))), .second, .val (.long k1), .second, .val (.long (k1 * k1)), .second, .unset, .unset] [(.double (FP.ddiv (FP.l2d (k1 * k1)) (FP.l2d ((1 : Int64) * (k1 * k1))))), (.double (FP.l2d 1))])) _
      refine Own.go (fun t k => XS.dsubS X26.here hx rfl (hb hby at_243) rfl (own_nn (own_x ⟨by decide, by decide⟩ ⟨hr1.1, Int.le_trans hr1.2 (by decide)⟩ ⟨hq1.1, Int.le_trans hq1.2 (by decide)⟩ hcs (by decide) hc212_29).2.1) rfl k) ?_
      show Own.Fin p e below (T26.setTop (mkF m 244 #[.val (.int p1), .val (.int p2), .val (.int p3), .val (.int p4), .val (.int p5), .val (.int p6), .val (.int (1 : Int32)), .val (.long k1), .second, .val (.long k2), .second, .val (.long k3), .second, .val (.int d1), .val (.int d2), .val (.int d3), .val (.ref b14), .val (.double (F_st (1 : Int64) k1 (k1 * k1))), .second, .val (.long k1), .second, .val (.long (k1 * k1)), .second, .unset, .unset] [(.double (F_x (1 : Int64) k1 (k1 * k1)))])) _
      refine Own.go (fun t k => XS.dstore X26.here hx rfl (hb hby at_244) rfl (l' := #[.val (.int p1), .val (.int p2), .val (.int p3), .val (.int p4), .val (.int p5), .val (.int p6), .val (.int (1 : Int32)), .val (.long k1), .second, .val (.long k2), .second, .val (.long k3), .second, .val (.int d1), .val (.int d2), .val (.int d3), .val (.ref b14), .val (.double (F_st (1 : Int64) k1 (k1 * k1))), .second, .val (.long k1), .second, .val (.long (k1 * k1)), .second, .val (.double (F_x (1 : Int64) k1 (k1 * k1))), .second]) rfl k) ?_
      show Own.Fin p e below (T26.setTop (mkF m 246 #[.val (.int p1), .val (.int p2), .val (.int p3), .val (.int p4), .val (.int p5), .val (.int p6), .val (.int (1 : Int32)), .val (.long k1), .second, .val (.long k2), .second, .val (.long k3), .second, .val (.int d1), .val (.int d2), .val (.int d3), .val (.ref b14), .val (.double (F_st (1 : Int64) k1 (k1 * k1))), .second, .val (.long k1), .second, .val (.long (k1 * k1)), .second, .val (.double (F_x (1 : Int64) k1 (k1 * k1))), .second] [])) _
      refine Own.go (fun t k => XS.dload X26.here hx rfl (hb hby at_246) rfl k) ?_
      show Own.Fin p e below (T26.setTop (mkF m 248 #[.val (.int p1), .val (.int p2), .val (.int p3), .val (.int p4), .val (.int p5), .val (.int p6), .val (.int (1 : Int32)), .val (.long k1), .second, .val (.long k2), .second, .val (.long k3), .second, .val (.int d1), .val (.int d2), .val (.int d3), .val (.ref b14), .val (.double (F_st (1 : Int64) k1 (k1 * k1))), .second, .val (.long k1), .second, .val (.long (k1 * k1)), .second, .val (.double (F_x (1 : Int64) k1 (k1 * k1))), .second] [(.double (F_st (1 : Int64) k1 (k1 * k1)))])) _
      refine Own.go (fun t k => XS.dload X26.here hx rfl (hb hby at_248) rfl k) ?_
      show Own.Fin p e below (T26.setTop (mkF m 250 #[.val (.int p1), .val (.int p2), .val (.int p3), .val (.int p4), .val (.int p5), .val (.int p6), .val (.int (1 : Int32)), .val (.long k1), .second, .val (.long k2), .second, .val (.long k3), .second, .val (.int d1), .val (.int d2), .val (.int d3), .val (.ref b14), .val (.double (F_st (1 : Int64) k1 (k1 * k1))), .second, .val (.long k1), .second, .val (.long (k1 * k1)), .second, .val (.double (F_x (1 : Int64) k1 (k1 * k1))), .second] [(.double (F_x (1 : Int64) k1 (k1 * k1))), (.double (F_st (1 : Int64) k1 (k1 * k1)))])) _
      refine Own.go (fun t k => XS.dcmpS (v := (0 : Int32)) X26.here hx rfl (hb hby at_250) rfl (by rw [F_st, if_neg (by decide), if_neg hc212_29]; exact own_pick (own_x ⟨by decide, by decide⟩ ⟨hr1.1, Int.le_trans hr1.2 (by decide)⟩ ⟨hq1.1, Int.le_trans hq1.2 (by decide)⟩ hcs (by decide) hc212_29).2.1 (own_x ⟨by decide, by decide⟩ ⟨hr1.1, Int.le_trans hr1.2 (by decide)⟩ ⟨hq1.1, Int.le_trans hq1.2 (by decide)⟩ hcs (by decide) hc212_29).2.2) k) ?_
      show Own.Fin p e below (T26.setTop (mkF m 251 #[.val (.int p1), .val (.int p2), .val (.int p3), .val (.int p4), .val (.int p5), .val (.int p6), .val (.int (1 : Int32)), .val (.long k1), .second, .val (.long k2), .second, .val (.long k3), .second, .val (.int d1), .val (.int d2), .val (.int d3), .val (.ref b14), .val (.double (F_st (1 : Int64) k1 (k1 * k1))), .second, .val (.long k1), .second, .val (.long (k1 * k1)), .second, .val (.double (F_x (1 : Int64) k1 (k1 * k1))), .second] [(.int (0 : Int32))])) _
      have hc251_31 : (0 : Int32) = (0 : Int32) := by decide
      refine Own.go (fun t k => XS.ifNo X26.here hx rfl (hb hby at_251) rfl ((if0 _ _).trans (teq hc251_31).2) k) ?_
      show Own.Fin p e below (T26.setTop (mkF m 254 #[.val (.int p1), .val (.int p2), .val (.int p3), .val (.int p4), .val (.int p5), .val (.int p6), .val (.int (1 : Int32)), .val (.long k1), .second, .val (.long k2), .second, .val (.long k3), .second, .val (.int d1), .val (.int d2), .val (.int d3), .val (.ref b14), .val (.double (F_st (1 : Int64) k1 (k1 * k1))), .second, .val (.long k1), .second, .val (.long (k1 * k1)), .second, .val (.double (F_x (1 : Int64) k1 (k1 * k1))), .second] [])) _
      refine Own.go (fun t k => XS.iconst X26.here hx rfl (hb hby at_254) k) ?_
      show Own.Fin p e below (T26.setTop (mkF m 255 #[.val (.int p1), .val (.int p2), .val (.int p3), .val (.int p4), .val (.int p5), .val (.int p6), .val (.int (1 : Int32)), .val (.long k1), .second, .val (.long k2), .second, .val (.long k3), .second, .val (.int d1), .val (.int d2), .val (.int d3), .val (.ref b14), .val (.double (F_st (1 : Int64) k1 (k1 * k1))), .second, .val (.long k1), .second, .val (.long (k1 * k1)), .second, .val (.double (F_x (1 : Int64) k1 (k1 * k1))), .second] [(.int (1 : Int32))])) _
      refine Own.go (fun t k => XS.goto X26.here hx rfl (pc0 := 255) (pc' := 259) rfl (hb hby at_255) (by decide) (by decide) k) ?_
      show Own.Fin p e below (T26.setTop (mkF m 259 #[.val (.int p1), .val (.int p2), .val (.int p3), .val (.int p4), .val (.int p5), .val (.int p6), .val (.int (1 : Int32)), .val (.long k1), .second, .val (.long k2), .second, .val (.long k3), .second, .val (.int d1), .val (.int d2), .val (.int d3), .val (.ref b14), .val (.double (F_st (1 : Int64) k1 (k1 * k1))), .second, .val (.long k1), .second, .val (.long (k1 * k1)), .second, .val (.double (F_x (1 : Int64) k1 (k1 * k1))), .second] [(.int (1 : Int32))])) _
      refine Own.retN X26 hx Bd.notSynchronized (t := .boolean) Bd.returns (by simp) (hb hby at_259) (by decide) (by decide) ?_
      exact ⟨rfl, N26⟩
  · rw [hn4]
    show Own.Fin p e below (s₁.setTop (mkF m 3 #[.val (.int p1), .val (.int p2), .val (.int p3), .val (.int p4), .val (.int p5), .val (.int p6), .unset, .unset, .unset, .unset, .unset, .unset, .unset, .unset, .unset, .unset, .unset, .unset, .unset, .unset, .unset, .unset, .unset, .unset, .unset] [(.int (2 : Int32))])) _
    refine Own.go (fun t k => XS.istore X0.here hx rfl (hb hby at_3) rfl (l' := #[.val (.int p1), .val (.int p2), .val (.int p3), .val (.int p4), .val (.int p5), .val (.int p6), .val (.int (2 : Int32)), .unset, .unset, .unset, .unset, .unset, .unset, .unset, .unset, .unset, .unset, .unset, .unset, .unset, .unset, .unset, .unset, .unset, .unset]) rfl k) ?_
    show Own.Fin p e below (s₁.setTop (mkF m 5 #[.val (.int p1), .val (.int p2), .val (.int p3), .val (.int p4), .val (.int p5), .val (.int p6), .val (.int (2 : Int32)), .unset, .unset, .unset, .unset, .unset, .unset, .unset, .unset, .unset, .unset, .unset, .unset, .unset, .unset, .unset, .unset, .unset, .unset] [])) _
    refine Own.go (fun t k => XS.iloadN X0.here hx rfl (hb hby at_5) rfl k) ?_
    show Own.Fin p e below (s₁.setTop (mkF m 6 #[.val (.int p1), .val (.int p2), .val (.int p3), .val (.int p4), .val (.int p5), .val (.int p6), .val (.int (2 : Int32)), .unset, .unset, .unset, .unset, .unset, .unset, .unset, .unset, .unset, .unset, .unset, .unset, .unset, .unset, .unset, .unset, .unset, .unset] [(.int p1)])) _
    refine Own.go (fun t k => XS.iconst X0.here hx rfl (hb hby at_6) k) ?_
    show Own.Fin p e below (s₁.setTop (mkF m 7 #[.val (.int p1), .val (.int p2), .val (.int p3), .val (.int p4), .val (.int p5), .val (.int p6), .val (.int (2 : Int32)), .unset, .unset, .unset, .unset, .unset, .unset, .unset, .unset, .unset, .unset, .unset, .unset, .unset, .unset, .unset, .unset, .unset, .unset] [(.int (2 : Int32)), (.int p1)])) _
    refine Own.go (fun t k => XS.iushr X0.here hx rfl (hb hby at_7) rfl k) ?_
    show Own.Fin p e below (s₁.setTop (mkF m 8 #[.val (.int p1), .val (.int p2), .val (.int p3), .val (.int p4), .val (.int p5), .val (.int p6), .val (.int (2 : Int32)), .unset, .unset, .unset, .unset, .unset, .unset, .unset, .unset, .unset, .unset, .unset, .unset, .unset, .unset, .unset, .unset, .unset, .unset] [(.int (((p1).toUInt32 >>> ((2 : Int32) &&& 31).toUInt32).toInt32))])) _
    refine Own.go (fun t k => XS.sipush X0.here hx rfl (hb hby at_8) k) ?_
    show Own.Fin p e below (s₁.setTop (mkF m 11 #[.val (.int p1), .val (.int p2), .val (.int p3), .val (.int p4), .val (.int p5), .val (.int p6), .val (.int (2 : Int32)), .unset, .unset, .unset, .unset, .unset, .unset, .unset, .unset, .unset, .unset, .unset, .unset, .unset, .unset, .unset, .unset, .unset, .unset] [(.int (1023 : Int32)), (.int (((p1).toUInt32 >>> ((2 : Int32) &&& 31).toUInt32).toInt32))])) _
    refine Own.go (fun t k => XS.iand X0.here hx rfl (hb hby at_11) rfl k) ?_
    show Own.Fin p e below (s₁.setTop (mkF m 12 #[.val (.int p1), .val (.int p2), .val (.int p3), .val (.int p4), .val (.int p5), .val (.int p6), .val (.int (2 : Int32)), .unset, .unset, .unset, .unset, .unset, .unset, .unset, .unset, .unset, .unset, .unset, .unset, .unset, .unset, .unset, .unset, .unset, .unset] [(.int ((((p1).toUInt32 >>> ((2 : Int32) &&& 31).toUInt32).toInt32) &&& (1023 : Int32)))])) _
    refine Own.go (fun t k => XS.i2l X0.here hx rfl (hb hby at_12) rfl k) ?_
    show Own.Fin p e below (s₁.setTop (mkF m 13 #[.val (.int p1), .val (.int p2), .val (.int p3), .val (.int p4), .val (.int p5), .val (.int p6), .val (.int (2 : Int32)), .unset, .unset, .unset, .unset, .unset, .unset, .unset, .unset, .unset, .unset, .unset, .unset, .unset, .unset, .unset, .unset, .unset, .unset] [(.long ((((((p1).toUInt32 >>> ((2 : Int32) &&& 31).toUInt32).toInt32) &&& (1023 : Int32))).toInt64))])) _
    have hk1 : 0 ≤ (((((((p1).toUInt32 >>> ((2 : Int32) &&& 31).toUInt32).toInt32) &&& (1023 : Int32))).toInt64)).toInt ∧ (((((((p1).toUInt32 >>> ((2 : Int32) &&& 31).toUInt32).toInt32) &&& (1023 : Int32))).toInt64)).toInt ≤ 1023 := own_kb _
    generalize hk1_ : ((((((p1).toUInt32 >>> ((2 : Int32) &&& 31).toUInt32).toInt32) &&& (1023 : Int32))).toInt64) = k1 at hk1 ⊢
    refine Own.go (fun t k => XS.lstore X0.here hx rfl (hb hby at_13) rfl (l' := #[.val (.int p1), .val (.int p2), .val (.int p3), .val (.int p4), .val (.int p5), .val (.int p6), .val (.int (2 : Int32)), .val (.long k1), .second, .unset, .unset, .unset, .unset, .unset, .unset, .unset, .unset, .unset, .unset, .unset, .unset, .unset, .unset, .unset, .unset]) rfl k) ?_
    show Own.Fin p e below (s₁.setTop (mkF m 15 #[.val (.int p1), .val (.int p2), .val (.int p3), .val (.int p4), .val (.int p5), .val (.int p6), .val (.int (2 : Int32)), .val (.long k1), .second, .unset, .unset, .unset, .unset, .unset, .unset, .unset, .unset, .unset, .unset, .unset, .unset, .unset, .unset, .unset, .unset] [])) _
    refine Own.go (fun t k => XS.iloadN X0.here hx rfl (hb hby at_15) rfl k) ?_
    show Own.Fin p e below (s₁.setTop (mkF m 16 #[.val (.int p1), .val (.int p2), .val (.int p3), .val (.int p4), .val (.int p5), .val (.int p6), .val (.int (2 : Int32)), .val (.long k1), .second, .unset, .unset, .unset, .unset, .unset, .unset, .unset, .unset, .unset, .unset, .unset, .unset, .unset, .unset, .unset, .unset] [(.int p2)])) _
    refine Own.go (fun t k => XS.sipush X0.here hx rfl (hb hby at_16) k) ?_
    show Own.Fin p e below (s₁.setTop (mkF m 19 #[.val (.int p1), .val (.int p2), .val (.int p3), .val (.int p4), .val (.int p5), .val (.int p6), .val (.int (2 : Int32)), .val (.long k1), .second, .unset, .unset, .unset, .unset, .unset, .unset, .unset, .unset, .unset, .unset, .unset, .unset, .unset, .unset, .unset, .unset] [(.int (1023 : Int32)), (.int p2)])) _
    refine Own.go (fun t k => XS.iand X0.here hx rfl (hb hby at_19) rfl k) ?_
    show Own.Fin p e below (s₁.setTop (mkF m 20 #[.val (.int p1), .val (.int p2), .val (.int p3), .val (.int p4), .val (.int p5), .val (.int p6), .val (.int (2 : Int32)), .val (.long k1), .second, .unset, .unset, .unset, .unset, .unset, .unset, .unset, .unset, .unset, .unset, .unset, .unset, .unset, .unset, .unset, .unset] [(.int (p2 &&& (1023 : Int32)))])) _
    refine Own.go (fun t k => XS.i2l X0.here hx rfl (hb hby at_20) rfl k) ?_
    show Own.Fin p e below (s₁.setTop (mkF m 21 #[.val (.int p1), .val (.int p2), .val (.int p3), .val (.int p4), .val (.int p5), .val (.int p6), .val (.int (2 : Int32)), .val (.long k1), .second, .unset, .unset, .unset, .unset, .unset, .unset, .unset, .unset, .unset, .unset, .unset, .unset, .unset, .unset, .unset, .unset] [(.long (((p2 &&& (1023 : Int32))).toInt64))])) _
    have hk2 : 0 ≤ ((((p2 &&& (1023 : Int32))).toInt64)).toInt ∧ ((((p2 &&& (1023 : Int32))).toInt64)).toInt ≤ 1023 := own_kb _
    generalize hk2_ : (((p2 &&& (1023 : Int32))).toInt64) = k2 at hk2 ⊢
    refine Own.go (fun t k => XS.lstore X0.here hx rfl (hb hby at_21) rfl (l' := #[.val (.int p1), .val (.int p2), .val (.int p3), .val (.int p4), .val (.int p5), .val (.int p6), .val (.int (2 : Int32)), .val (.long k1), .second, .val (.long k2), .second, .unset, .unset, .unset, .unset, .unset, .unset, .unset, .unset, .unset, .unset, .unset, .unset, .unset, .unset]) rfl k) ?_
    show Own.Fin p e below (s₁.setTop (mkF m 23 #[.val (.int p1), .val (.int p2), .val (.int p3), .val (.int p4), .val (.int p5), .val (.int p6), .val (.int (2 : Int32)), .val (.long k1), .second, .val (.long k2), .second, .unset, .unset, .unset, .unset, .unset, .unset, .unset, .unset, .unset, .unset, .unset, .unset, .unset, .unset] [])) _
    refine Own.go (fun t k => XS.iloadN X0.here hx rfl (hb hby at_23) rfl k) ?_
    show Own.Fin p e below (s₁.setTop (mkF m 24 #[.val (.int p1), .val (.int p2), .val (.int p3), .val (.int p4), .val (.int p5), .val (.int p6), .val (.int (2 : Int32)), .val (.long k1), .second, .val (.long k2), .second, .unset, .unset, .unset, .unset, .unset, .unset, .unset, .unset, .unset, .unset, .unset, .unset, .unset, .unset] [(.int p3)])) _
    refine Own.go (fun t k => XS.sipush X0.here hx rfl (hb hby at_24) k) ?_
    show Own.Fin p e below (s₁.setTop (mkF m 27 #[.val (.int p1), .val (.int p2), .val (.int p3), .val (.int p4), .val (.int p5), .val (.int p6), .val (.int (2 : Int32)), .val (.long k1), .second, .val (.long k2), .second, .unset, .unset, .unset, .unset, .unset, .unset, .unset, .unset, .unset, .unset, .unset, .unset, .unset, .unset] [(.int (1023 : Int32)), (.int p3)])) _
    refine Own.go (fun t k => XS.iand X0.here hx rfl (hb hby at_27) rfl k) ?_
    show Own.Fin p e below (s₁.setTop (mkF m 28 #[.val (.int p1), .val (.int p2), .val (.int p3), .val (.int p4), .val (.int p5), .val (.int p6), .val (.int (2 : Int32)), .val (.long k1), .second, .val (.long k2), .second, .unset, .unset, .unset, .unset, .unset, .unset, .unset, .unset, .unset, .unset, .unset, .unset, .unset, .unset] [(.int (p3 &&& (1023 : Int32)))])) _
    refine Own.go (fun t k => XS.i2l X0.here hx rfl (hb hby at_28) rfl k) ?_
    show Own.Fin p e below (s₁.setTop (mkF m 29 #[.val (.int p1), .val (.int p2), .val (.int p3), .val (.int p4), .val (.int p5), .val (.int p6), .val (.int (2 : Int32)), .val (.long k1), .second, .val (.long k2), .second, .unset, .unset, .unset, .unset, .unset, .unset, .unset, .unset, .unset, .unset, .unset, .unset, .unset, .unset] [(.long (((p3 &&& (1023 : Int32))).toInt64))])) _
    have hk3 : 0 ≤ ((((p3 &&& (1023 : Int32))).toInt64)).toInt ∧ ((((p3 &&& (1023 : Int32))).toInt64)).toInt ≤ 1023 := own_kb _
    generalize hk3_ : (((p3 &&& (1023 : Int32))).toInt64) = k3 at hk3 ⊢
    refine Own.go (fun t k => XS.lstore X0.here hx rfl (hb hby at_29) rfl (l' := #[.val (.int p1), .val (.int p2), .val (.int p3), .val (.int p4), .val (.int p5), .val (.int p6), .val (.int (2 : Int32)), .val (.long k1), .second, .val (.long k2), .second, .val (.long k3), .second, .unset, .unset, .unset, .unset, .unset, .unset, .unset, .unset, .unset, .unset, .unset, .unset]) rfl k) ?_
    show Own.Fin p e below (s₁.setTop (mkF m 31 #[.val (.int p1), .val (.int p2), .val (.int p3), .val (.int p4), .val (.int p5), .val (.int p6), .val (.int (2 : Int32)), .val (.long k1), .second, .val (.long k2), .second, .val (.long k3), .second, .unset, .unset, .unset, .unset, .unset, .unset, .unset, .unset, .unset, .unset, .unset, .unset] [])) _
    refine Own.go (fun t k => XS.iconst X0.here hx rfl (hb hby at_31) k) ?_
    show Own.Fin p e below (s₁.setTop (mkF m 32 #[.val (.int p1), .val (.int p2), .val (.int p3), .val (.int p4), .val (.int p5), .val (.int p6), .val (.int (2 : Int32)), .val (.long k1), .second, .val (.long k2), .second, .val (.long k3), .second, .unset, .unset, .unset, .unset, .unset, .unset, .unset, .unset, .unset, .unset, .unset, .unset] [(.int (1 : Int32))])) _
    refine Own.go (fun t k => XS.iloadN X0.here hx rfl (hb hby at_32) rfl k) ?_
    show Own.Fin p e below (s₁.setTop (mkF m 33 #[.val (.int p1), .val (.int p2), .val (.int p3), .val (.int p4), .val (.int p5), .val (.int p6), .val (.int (2 : Int32)), .val (.long k1), .second, .val (.long k2), .second, .val (.long k3), .second, .unset, .unset, .unset, .unset, .unset, .unset, .unset, .unset, .unset, .unset, .unset, .unset] [(.int p4), (.int (1 : Int32))])) _
    refine Own.go (fun t k => X0.ldcInt hx hown (mvT hZ (hw _ (List.mem_of_getElem? (i := 0) rfl))) (g := (mkF m 33 #[.val (.int p1), .val (.int p2), .val (.int p3), .val (.int p4), .val (.int p5), .val (.int p6), .val (.int (2 : Int32)), .val (.long k1), .second, .val (.long k2), .second, .val (.long k3), .second, .unset, .unset, .unset, .unset, .unset, .unset, .unset, .unset, .unset, .unset, .unset, .unset] [(.int p4), (.int (1 : Int32))])) rfl (hb hby at_33) _ k) ?_
    show Own.Fin p e below (s₁.setTop (mkF m 35 #[.val (.int p1), .val (.int p2), .val (.int p3), .val (.int p4), .val (.int p5), .val (.int p6), .val (.int (2 : Int32)), .val (.long k1), .second, .val (.long k2), .second, .val (.long k3), .second, .unset, .unset, .unset, .unset, .unset, .unset, .unset, .unset, .unset, .unset, .unset, .unset] [(.int (1048575 : Int32)), (.int p4), (.int (1 : Int32))])) _
    refine Own.go (fun t k => XS.iand X0.here hx rfl (hb hby at_35) rfl k) ?_
    show Own.Fin p e below (s₁.setTop (mkF m 36 #[.val (.int p1), .val (.int p2), .val (.int p3), .val (.int p4), .val (.int p5), .val (.int p6), .val (.int (2 : Int32)), .val (.long k1), .second, .val (.long k2), .second, .val (.long k3), .second, .unset, .unset, .unset, .unset, .unset, .unset, .unset, .unset, .unset, .unset, .unset, .unset] [(.int (p4 &&& (1048575 : Int32))), (.int (1 : Int32))])) _
    refine Own.go (fun t k => XS.iadd X0.here hx rfl (hb hby at_36) rfl k) ?_
    show Own.Fin p e below (s₁.setTop (mkF m 37 #[.val (.int p1), .val (.int p2), .val (.int p3), .val (.int p4), .val (.int p5), .val (.int p6), .val (.int (2 : Int32)), .val (.long k1), .second, .val (.long k2), .second, .val (.long k3), .second, .unset, .unset, .unset, .unset, .unset, .unset, .unset, .unset, .unset, .unset, .unset, .unset] [(.int ((1 : Int32) + (p4 &&& (1048575 : Int32))))])) _
    have hd1 : 1 ≤ (((1 : Int32) + (p4 &&& (1048575 : Int32)))).toInt ∧ (((1 : Int32) + (p4 &&& (1048575 : Int32)))).toInt ≤ 1048576 := own_db _
    generalize hd1_ : ((1 : Int32) + (p4 &&& (1048575 : Int32))) = d1 at hd1 ⊢
    refine Own.go (fun t k => XS.istore X0.here hx rfl (hb hby at_37) rfl (l' := #[.val (.int p1), .val (.int p2), .val (.int p3), .val (.int p4), .val (.int p5), .val (.int p6), .val (.int (2 : Int32)), .val (.long k1), .second, .val (.long k2), .second, .val (.long k3), .second, .val (.int d1), .unset, .unset, .unset, .unset, .unset, .unset, .unset, .unset, .unset, .unset, .unset]) rfl k) ?_
    show Own.Fin p e below (s₁.setTop (mkF m 39 #[.val (.int p1), .val (.int p2), .val (.int p3), .val (.int p4), .val (.int p5), .val (.int p6), .val (.int (2 : Int32)), .val (.long k1), .second, .val (.long k2), .second, .val (.long k3), .second, .val (.int d1), .unset, .unset, .unset, .unset, .unset, .unset, .unset, .unset, .unset, .unset, .unset] [])) _
    refine Own.go (fun t k => XS.iconst X0.here hx rfl (hb hby at_39) k) ?_
    show Own.Fin p e below (s₁.setTop (mkF m 40 #[.val (.int p1), .val (.int p2), .val (.int p3), .val (.int p4), .val (.int p5), .val (.int p6), .val (.int (2 : Int32)), .val (.long k1), .second, .val (.long k2), .second, .val (.long k3), .second, .val (.int d1), .unset, .unset, .unset, .unset, .unset, .unset, .unset, .unset, .unset, .unset, .unset] [(.int (1 : Int32))])) _
    refine Own.go (fun t k => XS.iload X0.here hx rfl (hb hby at_40) rfl k) ?_
    show Own.Fin p e below (s₁.setTop (mkF m 42 #[.val (.int p1), .val (.int p2), .val (.int p3), .val (.int p4), .val (.int p5), .val (.int p6), .val (.int (2 : Int32)), .val (.long k1), .second, .val (.long k2), .second, .val (.long k3), .second, .val (.int d1), .unset, .unset, .unset, .unset, .unset, .unset, .unset, .unset, .unset, .unset, .unset] [(.int p5), (.int (1 : Int32))])) _
    refine Own.go (fun t k => X0.ldcInt hx hown (mvT hZ (hw _ (List.mem_of_getElem? (i := 0) rfl))) (g := (mkF m 42 #[.val (.int p1), .val (.int p2), .val (.int p3), .val (.int p4), .val (.int p5), .val (.int p6), .val (.int (2 : Int32)), .val (.long k1), .second, .val (.long k2), .second, .val (.long k3), .second, .val (.int d1), .unset, .unset, .unset, .unset, .unset, .unset, .unset, .unset, .unset, .unset, .unset] [(.int p5), (.int (1 : Int32))])) rfl (hb hby at_42) _ k) ?_
    show Own.Fin p e below (s₁.setTop (mkF m 44 #[.val (.int p1), .val (.int p2), .val (.int p3), .val (.int p4), .val (.int p5), .val (.int p6), .val (.int (2 : Int32)), .val (.long k1), .second, .val (.long k2), .second, .val (.long k3), .second, .val (.int d1), .unset, .unset, .unset, .unset, .unset, .unset, .unset, .unset, .unset, .unset, .unset] [(.int (1048575 : Int32)), (.int p5), (.int (1 : Int32))])) _
    refine Own.go (fun t k => XS.iand X0.here hx rfl (hb hby at_44) rfl k) ?_
    show Own.Fin p e below (s₁.setTop (mkF m 45 #[.val (.int p1), .val (.int p2), .val (.int p3), .val (.int p4), .val (.int p5), .val (.int p6), .val (.int (2 : Int32)), .val (.long k1), .second, .val (.long k2), .second, .val (.long k3), .second, .val (.int d1), .unset, .unset, .unset, .unset, .unset, .unset, .unset, .unset, .unset, .unset, .unset] [(.int (p5 &&& (1048575 : Int32))), (.int (1 : Int32))])) _
    refine Own.go (fun t k => XS.iadd X0.here hx rfl (hb hby at_45) rfl k) ?_
    show Own.Fin p e below (s₁.setTop (mkF m 46 #[.val (.int p1), .val (.int p2), .val (.int p3), .val (.int p4), .val (.int p5), .val (.int p6), .val (.int (2 : Int32)), .val (.long k1), .second, .val (.long k2), .second, .val (.long k3), .second, .val (.int d1), .unset, .unset, .unset, .unset, .unset, .unset, .unset, .unset, .unset, .unset, .unset] [(.int ((1 : Int32) + (p5 &&& (1048575 : Int32))))])) _
    have hd2 : 1 ≤ (((1 : Int32) + (p5 &&& (1048575 : Int32)))).toInt ∧ (((1 : Int32) + (p5 &&& (1048575 : Int32)))).toInt ≤ 1048576 := own_db _
    generalize hd2_ : ((1 : Int32) + (p5 &&& (1048575 : Int32))) = d2 at hd2 ⊢
    refine Own.go (fun t k => XS.istore X0.here hx rfl (hb hby at_46) rfl (l' := #[.val (.int p1), .val (.int p2), .val (.int p3), .val (.int p4), .val (.int p5), .val (.int p6), .val (.int (2 : Int32)), .val (.long k1), .second, .val (.long k2), .second, .val (.long k3), .second, .val (.int d1), .val (.int d2), .unset, .unset, .unset, .unset, .unset, .unset, .unset, .unset, .unset, .unset]) rfl k) ?_
    show Own.Fin p e below (s₁.setTop (mkF m 48 #[.val (.int p1), .val (.int p2), .val (.int p3), .val (.int p4), .val (.int p5), .val (.int p6), .val (.int (2 : Int32)), .val (.long k1), .second, .val (.long k2), .second, .val (.long k3), .second, .val (.int d1), .val (.int d2), .unset, .unset, .unset, .unset, .unset, .unset, .unset, .unset, .unset, .unset] [])) _
    refine Own.go (fun t k => XS.iconst X0.here hx rfl (hb hby at_48) k) ?_
    show Own.Fin p e below (s₁.setTop (mkF m 49 #[.val (.int p1), .val (.int p2), .val (.int p3), .val (.int p4), .val (.int p5), .val (.int p6), .val (.int (2 : Int32)), .val (.long k1), .second, .val (.long k2), .second, .val (.long k3), .second, .val (.int d1), .val (.int d2), .unset, .unset, .unset, .unset, .unset, .unset, .unset, .unset, .unset, .unset] [(.int (1 : Int32))])) _
    refine Own.go (fun t k => XS.iload X0.here hx rfl (hb hby at_49) rfl k) ?_
    show Own.Fin p e below (s₁.setTop (mkF m 51 #[.val (.int p1), .val (.int p2), .val (.int p3), .val (.int p4), .val (.int p5), .val (.int p6), .val (.int (2 : Int32)), .val (.long k1), .second, .val (.long k2), .second, .val (.long k3), .second, .val (.int d1), .val (.int d2), .unset, .unset, .unset, .unset, .unset, .unset, .unset, .unset, .unset, .unset] [(.int p6), (.int (1 : Int32))])) _
    refine Own.go (fun t k => X0.ldcInt hx hown (mvT hZ (hw _ (List.mem_of_getElem? (i := 0) rfl))) (g := (mkF m 51 #[.val (.int p1), .val (.int p2), .val (.int p3), .val (.int p4), .val (.int p5), .val (.int p6), .val (.int (2 : Int32)), .val (.long k1), .second, .val (.long k2), .second, .val (.long k3), .second, .val (.int d1), .val (.int d2), .unset, .unset, .unset, .unset, .unset, .unset, .unset, .unset, .unset, .unset] [(.int p6), (.int (1 : Int32))])) rfl (hb hby at_51) _ k) ?_
    show Own.Fin p e below (s₁.setTop (mkF m 53 #[.val (.int p1), .val (.int p2), .val (.int p3), .val (.int p4), .val (.int p5), .val (.int p6), .val (.int (2 : Int32)), .val (.long k1), .second, .val (.long k2), .second, .val (.long k3), .second, .val (.int d1), .val (.int d2), .unset, .unset, .unset, .unset, .unset, .unset, .unset, .unset, .unset, .unset] [(.int (1048575 : Int32)), (.int p6), (.int (1 : Int32))])) _
    refine Own.go (fun t k => XS.iand X0.here hx rfl (hb hby at_53) rfl k) ?_
    show Own.Fin p e below (s₁.setTop (mkF m 54 #[.val (.int p1), .val (.int p2), .val (.int p3), .val (.int p4), .val (.int p5), .val (.int p6), .val (.int (2 : Int32)), .val (.long k1), .second, .val (.long k2), .second, .val (.long k3), .second, .val (.int d1), .val (.int d2), .unset, .unset, .unset, .unset, .unset, .unset, .unset, .unset, .unset, .unset] [(.int (p6 &&& (1048575 : Int32))), (.int (1 : Int32))])) _
    refine Own.go (fun t k => XS.iadd X0.here hx rfl (hb hby at_54) rfl k) ?_
    show Own.Fin p e below (s₁.setTop (mkF m 55 #[.val (.int p1), .val (.int p2), .val (.int p3), .val (.int p4), .val (.int p5), .val (.int p6), .val (.int (2 : Int32)), .val (.long k1), .second, .val (.long k2), .second, .val (.long k3), .second, .val (.int d1), .val (.int d2), .unset, .unset, .unset, .unset, .unset, .unset, .unset, .unset, .unset, .unset] [(.int ((1 : Int32) + (p6 &&& (1048575 : Int32))))])) _
    have hd3 : 1 ≤ (((1 : Int32) + (p6 &&& (1048575 : Int32)))).toInt ∧ (((1 : Int32) + (p6 &&& (1048575 : Int32)))).toInt ≤ 1048576 := own_db _
    generalize hd3_ : ((1 : Int32) + (p6 &&& (1048575 : Int32))) = d3 at hd3 ⊢
    refine Own.go (fun t k => XS.istore X0.here hx rfl (hb hby at_55) rfl (l' := #[.val (.int p1), .val (.int p2), .val (.int p3), .val (.int p4), .val (.int p5), .val (.int p6), .val (.int (2 : Int32)), .val (.long k1), .second, .val (.long k2), .second, .val (.long k3), .second, .val (.int d1), .val (.int d2), .val (.int d3), .unset, .unset, .unset, .unset, .unset, .unset, .unset, .unset, .unset]) rfl k) ?_
    show Own.Fin p e below (s₁.setTop (mkF m 57 #[.val (.int p1), .val (.int p2), .val (.int p3), .val (.int p4), .val (.int p5), .val (.int p6), .val (.int (2 : Int32)), .val (.long k1), .second, .val (.long k2), .second, .val (.long k3), .second, .val (.int d1), .val (.int d2), .val (.int d3), .unset, .unset, .unset, .unset, .unset, .unset, .unset, .unset, .unset] [])) _
    obtain ⟨T33, h33, X33, e33, E33, A33, D33, -, st33⟩ := newO X0 hx hZ hown (hw _ (List.mem_of_getElem? (i := 1) rfl)) (hw _ (List.mem_of_getElem? (i := 2) rfl)) (hw _ (List.mem_of_getElem? (i := 3) rfl)) e0 (g := (mkF m 57 #[.val (.int p1), .val (.int p2), .val (.int p3), .val (.int p4), .val (.int p5), .val (.int p6), .val (.int (2 : Int32)), .val (.long k1), .second, .val (.long k2), .second, .val (.long k3), .second, .val (.int d1), .val (.int d2), .val (.int d3), .unset, .unset, .unset, .unset, .unset, .unset, .unset, .unset, .unset] [])) rfl (hb hby at_57) (by decide) (by decide)
    obtain ⟨b33, gb33⟩ : ∃ z, z = h0.size := ⟨_, rfl⟩
    rw [← gb33] at A33 D33 st33
    refine Own.go st33 ?_
    have ge33 : n0 ≤ b33 := by rw [gb33]; exact Z0
    have Z33 : n0 ≤ h33.size := Nat.le_trans Z0 E33.1
    have fl34 : Fld Z h33 b33 "com/example/arachne/arachne/force/StressSum" "pairs" "J" (.long (0 : Int64)) := D33 (Or.inl (hw _ (List.mem_of_getElem? (i := 16) rfl))) (ty := .long) (by decide)
    have fl35 : Fld Z h33 b33 "com/example/arachne/arachne/force/StressSum" "ratios" "D" (.double 0) := D33 (Or.inl (hw _ (List.mem_of_getElem? (i := 23) rfl))) (ty := .double) (by decide)
    have fl36 : Fld Z h33 b33 "com/example/arachne/arachne/force/StressSum" "squares" "D" (.double 0) := D33 (Or.inl (hw _ (List.mem_of_getElem? (i := 25) rfl))) (ty := .double) (by decide)
    show Own.Fin p e below (T33.setTop (mkF m 60 #[.val (.int p1), .val (.int p2), .val (.int p3), .val (.int p4), .val (.int p5), .val (.int p6), .val (.int (2 : Int32)), .val (.long k1), .second, .val (.long k2), .second, .val (.long k3), .second, .val (.int d1), .val (.int d2), .val (.int d3), .unset, .unset, .unset, .unset, .unset, .unset, .unset, .unset, .unset] [(.ref b33)])) _
    have zd37 := Fld.zeroD fl35
    have zd38 := Fld.zeroD fl36
    refine Own.go (fun t k => XS.dup X33.here hx rfl (hb hby at_60) rfl rfl k) ?_
    show Own.Fin p e below (T33.setTop (mkF m 61 #[.val (.int p1), .val (.int p2), .val (.int p3), .val (.int p4), .val (.int p5), .val (.int p6), .val (.int (2 : Int32)), .val (.long k1), .second, .val (.long k2), .second, .val (.long k3), .second, .val (.int d1), .val (.int d2), .val (.int d3), .unset, .unset, .unset, .unset, .unset, .unset, .unset, .unset, .unset] [(.ref b33), (.ref b33)])) _
    refine Own.cI X33 hx hZ rfl hown (hw _ (List.mem_of_getElem? (i := 4) rfl)) (hw _ (List.mem_of_getElem? (i := 5) rfl)) (hw _ (List.mem_of_getElem? (i := 3) rfl)) (hw _ (List.mem_of_getElem? (i := 6) rfl)) (by decide) (rm1 l Z a0 hw [] b33 h33 n0 Z33) (by decide) (W := 1) (by decide) (argsL := []) (rest := [(.ref b33)]) (by rw [hml]; rfl) (lenOf pd_1 rfl) rfl (Nat.le_of_eq rfl) (hb hby at_61) e33 (by decide) (by decide) ?_
    intro T39 L39 v39 X39 hQ39
    obtain ⟨rfl, N39q, e39⟩ := hQ39
    have N39 := Fr.app N0 N39q
    show Own.Fin p e below (T39.setTop (mkF m 64 #[.val (.int p1), .val (.int p2), .val (.int p3), .val (.int p4), .val (.int p5), .val (.int p6), .val (.int (2 : Int32)), .val (.long k1), .second, .val (.long k2), .second, .val (.long k3), .second, .val (.int d1), .val (.int d2), .val (.int d3), .unset, .unset, .unset, .unset, .unset, .unset, .unset, .unset, .unset] [(.ref b33)])) _
    refine Own.go (fun t k => XS.astore X39.here hx rfl (hb hby at_64) rfl rfl (l' := #[.val (.int p1), .val (.int p2), .val (.int p3), .val (.int p4), .val (.int p5), .val (.int p6), .val (.int (2 : Int32)), .val (.long k1), .second, .val (.long k2), .second, .val (.long k3), .second, .val (.int d1), .val (.int d2), .val (.int d3), .val (.ref b33), .unset, .unset, .unset, .unset, .unset, .unset, .unset, .unset]) rfl k) ?_
    show Own.Fin p e below (T39.setTop (mkF m 66 #[.val (.int p1), .val (.int p2), .val (.int p3), .val (.int p4), .val (.int p5), .val (.int p6), .val (.int (2 : Int32)), .val (.long k1), .second, .val (.long k2), .second, .val (.long k3), .second, .val (.int d1), .val (.int d2), .val (.int d3), .val (.ref b33), .unset, .unset, .unset, .unset, .unset, .unset, .unset, .unset] [])) _
    refine Own.go (fun t k => XS.iload X39.here hx rfl (hb hby at_66) rfl k) ?_
    show Own.Fin p e below (T39.setTop (mkF m 68 #[.val (.int p1), .val (.int p2), .val (.int p3), .val (.int p4), .val (.int p5), .val (.int p6), .val (.int (2 : Int32)), .val (.long k1), .second, .val (.long k2), .second, .val (.long k3), .second, .val (.int d1), .val (.int d2), .val (.int d3), .val (.ref b33), .unset, .unset, .unset, .unset, .unset, .unset, .unset, .unset] [(.int (2 : Int32))])) _
    refine Own.go (fun t k => XS.iconst X39.here hx rfl (hb hby at_68) k) ?_
    show Own.Fin p e below (T39.setTop (mkF m 69 #[.val (.int p1), .val (.int p2), .val (.int p3), .val (.int p4), .val (.int p5), .val (.int p6), .val (.int (2 : Int32)), .val (.long k1), .second, .val (.long k2), .second, .val (.long k3), .second, .val (.int d1), .val (.int d2), .val (.int d3), .val (.ref b33), .unset, .unset, .unset, .unset, .unset, .unset, .unset, .unset] [(.int (1 : Int32)), (.int (2 : Int32))])) _
    have hc69_39 : ¬ ((2 : Int32) < (1 : Int32)) := by decide
    refine Own.go (fun t k => XS.icmpNo X39.here hx rfl (hb hby at_69) rfl (flt hc69_39).1 k) ?_
    show Own.Fin p e below (T39.setTop (mkF m 72 #[.val (.int p1), .val (.int p2), .val (.int p3), .val (.int p4), .val (.int p5), .val (.int p6), .val (.int (2 : Int32)), .val (.long k1), .second, .val (.long k2), .second, .val (.long k3), .second, .val (.int d1), .val (.int d2), .val (.int d3), .val (.ref b33), .unset, .unset, .unset, .unset, .unset, .unset, .unset, .unset] [])) _
    refine Own.go (fun t k => XS.aload X39.here hx rfl (hb hby at_72) rfl rfl k) ?_
    show Own.Fin p e below (T39.setTop (mkF m 74 #[.val (.int p1), .val (.int p2), .val (.int p3), .val (.int p4), .val (.int p5), .val (.int p6), .val (.int (2 : Int32)), .val (.long k1), .second, .val (.long k2), .second, .val (.long k3), .second, .val (.int d1), .val (.int d2), .val (.int d3), .val (.ref b33), .unset, .unset, .unset, .unset, .unset, .unset, .unset, .unset] [(.ref b33)])) _
    refine Own.go (fun t k => XS.lload X39.here hx rfl (hb hby at_74) rfl k) ?_
    show Own.Fin p e below (T39.setTop (mkF m 76 #[.val (.int p1), .val (.int p2), .val (.int p3), .val (.int p4), .val (.int p5), .val (.int p6), .val (.int (2 : Int32)), .val (.long k1), .second, .val (.long k2), .second, .val (.long k3), .second, .val (.int d1), .val (.int d2), .val (.int d3), .val (.ref b33), .unset, .unset, .unset, .unset, .unset, .unset, .unset, .unset] [(.long k1), (.ref b33)])) _
    refine Own.go (fun t k => XS.iload X39.here hx rfl (hb hby at_76) rfl k) ?_
    show Own.Fin p e below (T39.setTop (mkF m 78 #[.val (.int p1), .val (.int p2), .val (.int p3), .val (.int p4), .val (.int p5), .val (.int p6), .val (.int (2 : Int32)), .val (.long k1), .second, .val (.long k2), .second, .val (.long k3), .second, .val (.int d1), .val (.int d2), .val (.int d3), .val (.ref b33), .unset, .unset, .unset, .unset, .unset, .unset, .unset, .unset] [(.int d1), (.long k1), (.ref b33)])) _
    refine Own.go (fun t k => XS.i2l X39.here hx rfl (hb hby at_78) rfl k) ?_
    show Own.Fin p e below (T39.setTop (mkF m 79 #[.val (.int p1), .val (.int p2), .val (.int p3), .val (.int p4), .val (.int p5), .val (.int p6), .val (.int (2 : Int32)), .val (.long k1), .second, .val (.long k2), .second, .val (.long k3), .second, .val (.int d1), .val (.int d2), .val (.int d3), .val (.ref b33), .unset, .unset, .unset, .unset, .unset, .unset, .unset, .unset] [(.long ((d1).toInt64)), (.long k1), (.ref b33)])) _
    refine Own.go (fun t k => XS.lmul X39.here hx rfl (hb hby at_79) rfl k) ?_
    show Own.Fin p e below (T39.setTop (mkF m 80 #[.val (.int p1), .val (.int p2), .val (.int p3), .val (.int p4), .val (.int p5), .val (.int p6), .val (.int (2 : Int32)), .val (.long k1), .second, .val (.long k2), .second, .val (.long k3), .second, .val (.int d1), .val (.int d2), .val (.int d3), .val (.ref b33), .unset, .unset, .unset, .unset, .unset, .unset, .unset, .unset] [(.long (k1 * ((d1).toInt64))), (.ref b33)])) _
    refine Own.go (fun t k => XS.l2dS X39.here hx rfl (hb hby at_80) rfl rfl k) ?_
    show Own.Fin p e below (T39.setTop (mkF m 81 #[.val (.int p1), .val (.int p2), .val (.int p3), .val (.int p4), .val (.int p5), .val (.int p6), .val (.int (2 : Int32)), .val (.long k1), .second, .val (.long k2), .second, .val (.long k3), .second, .val (.int d1), .val (.int d2), .val (.int d3), .val (.ref b33), .unset, .unset, .unset, .unset, .unset, .unset, .unset, .unset] [(.double (FP.l2d (k1 * ((d1).toInt64)))), (.ref b33)])) _
    refine Own.go (fun t k => XS.iload X39.here hx rfl (hb hby at_81) rfl k) ?_
    show Own.Fin p e below (T39.setTop (mkF m 83 #[.val (.int p1), .val (.int p2), .val (.int p3), .val (.int p4), .val (.int p5), .val (.int p6), .val (.int (2 : Int32)), .val (.long k1), .second, .val (.long k2), .second, .val (.long k3), .second, .val (.int d1), .val (.int d2), .val (.int d3), .val (.ref b33), .unset, .unset, .unset, .unset, .unset, .unset, .unset, .unset] [(.int d1), (.double (FP.l2d (k1 * ((d1).toInt64)))), (.ref b33)])) _
    refine Own.cV X39 hx hZ hown (hw _ (List.mem_of_getElem? (i := 17) rfl)) (hw _ (List.mem_of_getElem? (i := 18) rfl)) (notFace_of_selects (args := #[]) (mvT hZ (hw _ (List.mem_of_getElem? (i := 20) rfl)))) (hw _ (List.mem_of_getElem? (i := 20) rfl)) (hw _ (List.mem_of_getElem? (i := 19) rfl)) (hw _ (List.mem_of_getElem? (i := 3) rfl)) (hw _ (List.mem_of_getElem? (i := 21) rfl)) (by decide) (rm4 l Z a0 hw [] b33 (FP.l2d (k1 * ((d1).toInt64))) d1 k1 (0 : Int64) (0 : Int64) (0 : Int64) h33 n0 Z33 A33 fl34 zd37 zd38 ge33 rfl hk1 hd1 ⟨by decide, by decide⟩ ⟨by decide, by decide⟩) (by decide) (W := 0) (by decide) (argsL := [(.double (FP.l2d (k1 * ((d1).toInt64)))), (.int d1)]) (rest := []) A33 (by rw [hml]; rfl) (lenOf pd_3 rfl) rfl (Nat.le_of_eq rfl) (hb hby at_83) e39 (by decide) (by decide) ?_
    intro T41 L41 v41 X41 hQ41
    obtain ⟨rfl, N41q, K41q, FP41, FR41, FS41⟩ := hQ41
    have N41 := Fr.app N39 N41q
    have f42 := A33.keep K41q
    have Z41 : n0 ≤ T41.heap.size := Nat.le_trans Z33 K41q.1
    rw [show (0 : Int64) + (1 : Int64) = (1 : Int64) by decide] at FP41
    rw [Int64.zero_add] at FR41 FS41
    have hmm1 := own_mulv hk1 hk1 (by decide)
    have hmb1 : 0 ≤ (k1 * k1).toInt ∧ (k1 * k1).toInt ≤ 1046529 := by rw [hmm1.1]; exact hmm1.2
    have hrv1 : k1.toInt = k1.toInt := rfl
    have hr1 := hk1
    have hqv1 : (k1 * k1).toInt = k1.toInt * k1.toInt := hmm1.1
    have hq1 := hmb1
    show Own.Fin p e below (T41.setTop (mkF m 86 #[.val (.int p1), .val (.int p2), .val (.int p3), .val (.int p4), .val (.int p5), .val (.int p6), .val (.int (2 : Int32)), .val (.long k1), .second, .val (.long k2), .second, .val (.long k3), .second, .val (.int d1), .val (.int d2), .val (.int d3), .val (.ref b33), .unset, .unset, .unset, .unset, .unset, .unset, .unset, .unset] [])) _
    refine Own.go (fun t k => XS.iload X41.here hx rfl (hb hby at_86) rfl k) ?_
    show Own.Fin p e below (T41.setTop (mkF m 88 #[.val (.int p1), .val (.int p2), .val (.int p3), .val (.int p4), .val (.int p5), .val (.int p6), .val (.int (2 : Int32)), .val (.long k1), .second, .val (.long k2), .second, .val (.long k3), .second, .val (.int d1), .val (.int d2), .val (.int d3), .val (.ref b33), .unset, .unset, .unset, .unset, .unset, .unset, .unset, .unset] [(.int (2 : Int32))])) _
    refine Own.go (fun t k => XS.iconst X41.here hx rfl (hb hby at_88) k) ?_
    show Own.Fin p e below (T41.setTop (mkF m 89 #[.val (.int p1), .val (.int p2), .val (.int p3), .val (.int p4), .val (.int p5), .val (.int p6), .val (.int (2 : Int32)), .val (.long k1), .second, .val (.long k2), .second, .val (.long k3), .second, .val (.int d1), .val (.int d2), .val (.int d3), .val (.ref b33), .unset, .unset, .unset, .unset, .unset, .unset, .unset, .unset] [(.int (2 : Int32)), (.int (2 : Int32))])) _
    have hc89_42 : ¬ ((2 : Int32) < (2 : Int32)) := by decide
    refine Own.go (fun t k => XS.icmpNo X41.here hx rfl (hb hby at_89) rfl (flt hc89_42).1 k) ?_
    show Own.Fin p e below (T41.setTop (mkF m 92 #[.val (.int p1), .val (.int p2), .val (.int p3), .val (.int p4), .val (.int p5), .val (.int p6), .val (.int (2 : Int32)), .val (.long k1), .second, .val (.long k2), .second, .val (.long k3), .second, .val (.int d1), .val (.int d2), .val (.int d3), .val (.ref b33), .unset, .unset, .unset, .unset, .unset, .unset, .unset, .unset] [])) _
    refine Own.go (fun t k => XS.aload X41.here hx rfl (hb hby at_92) rfl rfl k) ?_
    show Own.Fin p e below (T41.setTop (mkF m 94 #[.val (.int p1), .val (.int p2), .val (.int p3), .val (.int p4), .val (.int p5), .val (.int p6), .val (.int (2 : Int32)), .val (.long k1), .second, .val (.long k2), .second, .val (.long k3), .second, .val (.int d1), .val (.int d2), .val (.int d3), .val (.ref b33), .unset, .unset, .unset, .unset, .unset, .unset, .unset, .unset] [(.ref b33)])) _
    refine Own.go (fun t k => XS.lload X41.here hx rfl (hb hby at_94) rfl k) ?_
    show Own.Fin p e below (T41.setTop (mkF m 96 #[.val (.int p1), .val (.int p2), .val (.int p3), .val (.int p4), .val (.int p5), .val (.int p6), .val (.int (2 : Int32)), .val (.long k1), .second, .val (.long k2), .second, .val (.long k3), .second, .val (.int d1), .val (.int d2), .val (.int d3), .val (.ref b33), .unset, .unset, .unset, .unset, .unset, .unset, .unset, .unset] [(.long k2), (.ref b33)])) _
    refine Own.go (fun t k => XS.iload X41.here hx rfl (hb hby at_96) rfl k) ?_
    show Own.Fin p e below (T41.setTop (mkF m 98 #[.val (.int p1), .val (.int p2), .val (.int p3), .val (.int p4), .val (.int p5), .val (.int p6), .val (.int (2 : Int32)), .val (.long k1), .second, .val (.long k2), .second, .val (.long k3), .second, .val (.int d1), .val (.int d2), .val (.int d3), .val (.ref b33), .unset, .unset, .unset, .unset, .unset, .unset, .unset, .unset] [(.int d2), (.long k2), (.ref b33)])) _
    refine Own.go (fun t k => XS.i2l X41.here hx rfl (hb hby at_98) rfl k) ?_
    show Own.Fin p e below (T41.setTop (mkF m 99 #[.val (.int p1), .val (.int p2), .val (.int p3), .val (.int p4), .val (.int p5), .val (.int p6), .val (.int (2 : Int32)), .val (.long k1), .second, .val (.long k2), .second, .val (.long k3), .second, .val (.int d1), .val (.int d2), .val (.int d3), .val (.ref b33), .unset, .unset, .unset, .unset, .unset, .unset, .unset, .unset] [(.long ((d2).toInt64)), (.long k2), (.ref b33)])) _
    refine Own.go (fun t k => XS.lmul X41.here hx rfl (hb hby at_99) rfl k) ?_
    show Own.Fin p e below (T41.setTop (mkF m 100 #[.val (.int p1), .val (.int p2), .val (.int p3), .val (.int p4), .val (.int p5), .val (.int p6), .val (.int (2 : Int32)), .val (.long k1), .second, .val (.long k2), .second, .val (.long k3), .second, .val (.int d1), .val (.int d2), .val (.int d3), .val (.ref b33), .unset, .unset, .unset, .unset, .unset, .unset, .unset, .unset] [(.long (k2 * ((d2).toInt64))), (.ref b33)])) _
    refine Own.go (fun t k => XS.l2dS X41.here hx rfl (hb hby at_100) rfl rfl k) ?_
    show Own.Fin p e below (T41.setTop (mkF m 101 #[.val (.int p1), .val (.int p2), .val (.int p3), .val (.int p4), .val (.int p5), .val (.int p6), .val (.int (2 : Int32)), .val (.long k1), .second, .val (.long k2), .second, .val (.long k3), .second, .val (.int d1), .val (.int d2), .val (.int d3), .val (.ref b33), .unset, .unset, .unset, .unset, .unset, .unset, .unset, .unset] [(.double (FP.l2d (k2 * ((d2).toInt64)))), (.ref b33)])) _
    refine Own.go (fun t k => XS.iload X41.here hx rfl (hb hby at_101) rfl k) ?_
    show Own.Fin p e below (T41.setTop (mkF m 103 #[.val (.int p1), .val (.int p2), .val (.int p3), .val (.int p4), .val (.int p5), .val (.int p6), .val (.int (2 : Int32)), .val (.long k1), .second, .val (.long k2), .second, .val (.long k3), .second, .val (.int d1), .val (.int d2), .val (.int d3), .val (.ref b33), .unset, .unset, .unset, .unset, .unset, .unset, .unset, .unset] [(.int d2), (.double (FP.l2d (k2 * ((d2).toInt64)))), (.ref b33)])) _
    refine Own.cV X41 hx hZ hown (hw _ (List.mem_of_getElem? (i := 17) rfl)) (hw _ (List.mem_of_getElem? (i := 18) rfl)) (notFace_of_selects (args := #[]) (mvT hZ (hw _ (List.mem_of_getElem? (i := 20) rfl)))) (hw _ (List.mem_of_getElem? (i := 20) rfl)) (hw _ (List.mem_of_getElem? (i := 19) rfl)) (hw _ (List.mem_of_getElem? (i := 3) rfl)) (hw _ (List.mem_of_getElem? (i := 21) rfl)) (by decide) (rm4 l Z a0 hw [] b33 (FP.l2d (k2 * ((d2).toInt64))) d2 k2 (1 : Int64) k1 (k1 * k1) T41.heap n0 Z41 f42 FP41 FR41 FS41 ge33 rfl hk2 hd2 ⟨hr1.1, Int.le_trans hr1.2 (by decide)⟩ ⟨hq1.1, Int.le_trans hq1.2 (by decide)⟩) (by decide) (W := 0) (by decide) (argsL := [(.double (FP.l2d (k2 * ((d2).toInt64)))), (.int d2)]) (rest := []) f42 (by rw [hml]; rfl) (lenOf pd_3 rfl) rfl (Nat.le_of_eq rfl) (hb hby at_103) rfl (by decide) (by decide) ?_
    intro T44 L44 v44 X44 hQ44
    obtain ⟨rfl, N44q, K44q, FP44, FR44, FS44⟩ := hQ44
    have N44 := Fr.app N41 N44q
    have f45 := f42.keep K44q
    have Z44 : n0 ≤ T44.heap.size := Nat.le_trans Z41 K44q.1
    rw [show (1 : Int64) + (1 : Int64) = (2 : Int64) by decide] at FP44
    have hmm2 := own_mulv hk2 hk2 (by decide)
    have hmb2 : 0 ≤ (k2 * k2).toInt ∧ (k2 * k2).toInt ≤ 1046529 := by rw [hmm2.1]; exact hmm2.2
    have hra2 := own_addv hr1 hk2 (by decide)
    have hr2 := hra2.2
    have hrv2 : (k1 + k2).toInt = k1.toInt + k2.toInt := by rw [hra2.1, hrv1]
    have hqa2 := own_addv hq1 hmb2 (by decide)
    have hq2 := hqa2.2
    have hqv2 : ((k1 * k1) + (k2 * k2)).toInt = k1.toInt * k1.toInt + k2.toInt * k2.toInt := by rw [hqa2.1, hqv1, hmm2.1]
    show Own.Fin p e below (T44.setTop (mkF m 106 #[.val (.int p1), .val (.int p2), .val (.int p3), .val (.int p4), .val (.int p5), .val (.int p6), .val (.int (2 : Int32)), .val (.long k1), .second, .val (.long k2), .second, .val (.long k3), .second, .val (.int d1), .val (.int d2), .val (.int d3), .val (.ref b33), .unset, .unset, .unset, .unset, .unset, .unset, .unset, .unset] [])) _
    refine Own.go (fun t k => XS.iload X44.here hx rfl (hb hby at_106) rfl k) ?_
    show Own.Fin p e below (T44.setTop (mkF m 108 #[.val (.int p1), .val (.int p2), .val (.int p3), .val (.int p4), .val (.int p5), .val (.int p6), .val (.int (2 : Int32)), .val (.long k1), .second, .val (.long k2), .second, .val (.long k3), .second, .val (.int d1), .val (.int d2), .val (.int d3), .val (.ref b33), .unset, .unset, .unset, .unset, .unset, .unset, .unset, .unset] [(.int (2 : Int32))])) _
    refine Own.go (fun t k => XS.iconst X44.here hx rfl (hb hby at_108) k) ?_
    show Own.Fin p e below (T44.setTop (mkF m 109 #[.val (.int p1), .val (.int p2), .val (.int p3), .val (.int p4), .val (.int p5), .val (.int p6), .val (.int (2 : Int32)), .val (.long k1), .second, .val (.long k2), .second, .val (.long k3), .second, .val (.int d1), .val (.int d2), .val (.int d3), .val (.ref b33), .unset, .unset, .unset, .unset, .unset, .unset, .unset, .unset] [(.int (3 : Int32)), (.int (2 : Int32))])) _
    have hc109_45 : (2 : Int32) < (3 : Int32) := by decide
    refine Own.go (fun t k => XS.icmpYes X44.here hx rfl (pc0 := 109) (pc' := 126) rfl (hb hby at_109) rfl (tlt hc109_45).1 (by decide) (by decide) k) ?_
    show Own.Fin p e below (T44.setTop (mkF m 126 #[.val (.int p1), .val (.int p2), .val (.int p3), .val (.int p4), .val (.int p5), .val (.int p6), .val (.int (2 : Int32)), .val (.long k1), .second, .val (.long k2), .second, .val (.long k3), .second, .val (.int d1), .val (.int d2), .val (.int d3), .val (.ref b33), .unset, .unset, .unset, .unset, .unset, .unset, .unset, .unset] [])) _
    refine Own.go (fun t k => XS.aload X44.here hx rfl (hb hby at_126) rfl rfl k) ?_
    show Own.Fin p e below (T44.setTop (mkF m 128 #[.val (.int p1), .val (.int p2), .val (.int p3), .val (.int p4), .val (.int p5), .val (.int p6), .val (.int (2 : Int32)), .val (.long k1), .second, .val (.long k2), .second, .val (.long k3), .second, .val (.int d1), .val (.int d2), .val (.int d3), .val (.ref b33), .unset, .unset, .unset, .unset, .unset, .unset, .unset, .unset] [(.ref b33)])) _
    have hcs : (k1 + k2).toInt * (k1 + k2).toInt ≤ (2 : Int64).toInt * ((k1 * k1) + (k2 * k2)).toInt := by
      rw [hrv2, hqv2, show (2 : Int64).toInt = 2 by decide]
      exact own_cs2 _ _
    refine Own.cV X44 hx hZ hown (hw _ (List.mem_of_getElem? (i := 10) rfl)) (hw _ (List.mem_of_getElem? (i := 11) rfl)) (notFace_of_selects (args := #[]) (mvT hZ (hw _ (List.mem_of_getElem? (i := 13) rfl)))) (hw _ (List.mem_of_getElem? (i := 13) rfl)) (hw _ (List.mem_of_getElem? (i := 12) rfl)) (hw _ (List.mem_of_getElem? (i := 3) rfl)) (hw _ (List.mem_of_getElem? (i := 14) rfl)) (by decide) (rm3 l Z a0 hw [] b33 (2 : Int64) (k1 + k2) ((k1 * k1) + (k2 * k2)) T44.heap n0 Z44 FP44 FR44 FS44 ⟨by decide, by decide⟩ ⟨hr2.1, Int.le_trans hr2.2 (by decide)⟩ ⟨hq2.1, Int.le_trans hq2.2 (by decide)⟩ hcs) (by decide) (W := 0) (by decide) (argsL := []) (rest := []) f45 (by rw [hml]; rfl) (lenOf pd_2 rfl) rfl (Nat.le_of_eq rfl) (hb hby at_128) rfl (by decide) (by decide) ?_
    intro T47 L47 v47 X47 hQ47
    obtain ⟨rfl, N47q, e47⟩ := hQ47
    have N47 := Fr.app N44 N47q
    show Own.Fin p e below (T47.setTop (mkF m 131 #[.val (.int p1), .val (.int p2), .val (.int p3), .val (.int p4), .val (.int p5), .val (.int p6), .val (.int (2 : Int32)), .val (.long k1), .second, .val (.long k2), .second, .val (.long k3), .second, .val (.int d1), .val (.int d2), .val (.int d3), .val (.ref b33), .unset, .unset, .unset, .unset, .unset, .unset, .unset, .unset] [(.double (F_st (2 : Int64) (k1 + k2) ((k1 * k1) + (k2 * k2))))])) _
    refine Own.go (fun t k => XS.dstore X47.here hx rfl (hb hby at_131) rfl (l' := #[.val (.int p1), .val (.int p2), .val (.int p3), .val (.int p4), .val (.int p5), .val (.int p6), .val (.int (2 : Int32)), .val (.long k1), .second, .val (.long k2), .second, .val (.long k3), .second, .val (.int d1), .val (.int d2), .val (.int d3), .val (.ref b33), .val (.double (F_st (2 : Int64) (k1 + k2) ((k1 * k1) + (k2 * k2)))), .second, .unset, .unset, .unset, .unset, .unset, .unset]) rfl k) ?_
    show Own.Fin p e below (T47.setTop (mkF m 133 #[.val (.int p1), .val (.int p2), .val (.int p3), .val (.int p4), .val (.int p5), .val (.int p6), .val (.int (2 : Int32)), .val (.long k1), .second, .val (.long k2), .second, .val (.long k3), .second, .val (.int d1), .val (.int d2), .val (.int d3), .val (.ref b33), .val (.double (F_st (2 : Int64) (k1 + k2) ((k1 * k1) + (k2 * k2)))), .second, .unset, .unset, .unset, .unset, .unset, .unset] [])) _
    refine Own.go (fun t k => XS.iload X47.here hx rfl (hb hby at_133) rfl k) ?_
    show Own.Fin p e below (T47.setTop (mkF m 135 #[.val (.int p1), .val (.int p2), .val (.int p3), .val (.int p4), .val (.int p5), .val (.int p6), .val (.int (2 : Int32)), .val (.long k1), .second, .val (.long k2), .second, .val (.long k3), .second, .val (.int d1), .val (.int d2), .val (.int d3), .val (.ref b33), .val (.double (F_st (2 : Int64) (k1 + k2) ((k1 * k1) + (k2 * k2)))), .second, .unset, .unset, .unset, .unset, .unset, .unset] [(.int (2 : Int32))])) _
    have hc135_47 : ¬ ((2 : Int32) = (0 : Int32)) := by decide
    refine Own.go (fun t k => XS.ifYes X47.here hx rfl (pc0 := 135) (pc' := 151) rfl (hb hby at_135) rfl ((if0 _ _).trans (feq hc135_47).2) (by decide) (by decide) k) ?_
    show Own.Fin p e below (T47.setTop (mkF m 151 #[.val (.int p1), .val (.int p2), .val (.int p3), .val (.int p4), .val (.int p5), .val (.int p6), .val (.int (2 : Int32)), .val (.long k1), .second, .val (.long k2), .second, .val (.long k3), .second, .val (.int d1), .val (.int d2), .val (.int d3), .val (.ref b33), .val (.double (F_st (2 : Int64) (k1 + k2) ((k1 * k1) + (k2 * k2)))), .second, .unset, .unset, .unset, .unset, .unset, .unset] [])) _
    refine Own.go (fun t k => XS.lload X47.here hx rfl (hb hby at_151) rfl k) ?_
    show Own.Fin p e below (T47.setTop (mkF m 153 #[.val (.int p1), .val (.int p2), .val (.int p3), .val (.int p4), .val (.int p5), .val (.int p6), .val (.int (2 : Int32)), .val (.long k1), .second, .val (.long k2), .second, .val (.long k3), .second, .val (.int d1), .val (.int d2), .val (.int d3), .val (.ref b33), .val (.double (F_st (2 : Int64) (k1 + k2) ((k1 * k1) + (k2 * k2)))), .second, .unset, .unset, .unset, .unset, .unset, .unset] [(.long k1)])) _
    refine Own.go (fun t k => XS.lstore X47.here hx rfl (hb hby at_153) rfl (l' := #[.val (.int p1), .val (.int p2), .val (.int p3), .val (.int p4), .val (.int p5), .val (.int p6), .val (.int (2 : Int32)), .val (.long k1), .second, .val (.long k2), .second, .val (.long k3), .second, .val (.int d1), .val (.int d2), .val (.int d3), .val (.ref b33), .val (.double (F_st (2 : Int64) (k1 + k2) ((k1 * k1) + (k2 * k2)))), .second, .val (.long k1), .second, .unset, .unset, .unset, .unset]) rfl k) ?_
    show Own.Fin p e below (T47.setTop (mkF m 155 #[.val (.int p1), .val (.int p2), .val (.int p3), .val (.int p4), .val (.int p5), .val (.int p6), .val (.int (2 : Int32)), .val (.long k1), .second, .val (.long k2), .second, .val (.long k3), .second, .val (.int d1), .val (.int d2), .val (.int d3), .val (.ref b33), .val (.double (F_st (2 : Int64) (k1 + k2) ((k1 * k1) + (k2 * k2)))), .second, .val (.long k1), .second, .unset, .unset, .unset, .unset] [])) _
    refine Own.go (fun t k => XS.lload X47.here hx rfl (hb hby at_155) rfl k) ?_
    show Own.Fin p e below (T47.setTop (mkF m 157 #[.val (.int p1), .val (.int p2), .val (.int p3), .val (.int p4), .val (.int p5), .val (.int p6), .val (.int (2 : Int32)), .val (.long k1), .second, .val (.long k2), .second, .val (.long k3), .second, .val (.int d1), .val (.int d2), .val (.int d3), .val (.ref b33), .val (.double (F_st (2 : Int64) (k1 + k2) ((k1 * k1) + (k2 * k2)))), .second, .val (.long k1), .second, .unset, .unset, .unset, .unset] [(.long k1)])) _
    refine Own.go (fun t k => XS.lload X47.here hx rfl (hb hby at_157) rfl k) ?_
    show Own.Fin p e below (T47.setTop (mkF m 159 #[.val (.int p1), .val (.int p2), .val (.int p3), .val (.int p4), .val (.int p5), .val (.int p6), .val (.int (2 : Int32)), .val (.long k1), .second, .val (.long k2), .second, .val (.long k3), .second, .val (.int d1), .val (.int d2), .val (.int d3), .val (.ref b33), .val (.double (F_st (2 : Int64) (k1 + k2) ((k1 * k1) + (k2 * k2)))), .second, .val (.long k1), .second, .unset, .unset, .unset, .unset] [(.long k1), (.long k1)])) _
    refine Own.go (fun t k => XS.lmul X47.here hx rfl (hb hby at_159) rfl k) ?_
    show Own.Fin p e below (T47.setTop (mkF m 160 #[.val (.int p1), .val (.int p2), .val (.int p3), .val (.int p4), .val (.int p5), .val (.int p6), .val (.int (2 : Int32)), .val (.long k1), .second, .val (.long k2), .second, .val (.long k3), .second, .val (.int d1), .val (.int d2), .val (.int d3), .val (.ref b33), .val (.double (F_st (2 : Int64) (k1 + k2) ((k1 * k1) + (k2 * k2)))), .second, .val (.long k1), .second, .unset, .unset, .unset, .unset] [(.long (k1 * k1))])) _
    refine Own.go (fun t k => XS.lstore X47.here hx rfl (hb hby at_160) rfl (l' := #[.val (.int p1), .val (.int p2), .val (.int p3), .val (.int p4), .val (.int p5), .val (.int p6), .val (.int (2 : Int32)), .val (.long k1), .second, .val (.long k2), .second, .val (.long k3), .second, .val (.int d1), .val (.int d2), .val (.int d3), .val (.ref b33), .val (.double (F_st (2 : Int64) (k1 + k2) ((k1 * k1) + (k2 * k2)))), .second, .val (.long k1), .second, .val (.long (k1 * k1)), .second, .unset, .unset]) rfl k) ?_
    show Own.Fin p e below (T47.setTop (mkF m 162 #[.val (.int p1), .val (.int p2), .val (.int p3), .val (.int p4), .val (.int p5), .val (.int p6), .val (.int (2 : Int32)), .val (.long k1), .second, .val (.long k2), .second, .val (.long k3), .second, .val (.int d1), .val (.int d2), .val (.int d3), .val (.ref b33), .val (.double (F_st (2 : Int64) (k1 + k2) ((k1 * k1) + (k2 * k2)))), .second, .val (.long k1), .second, .val (.long (k1 * k1)), .second, .unset, .unset] [])) _
    refine Own.go (fun t k => XS.iload X47.here hx rfl (hb hby at_162) rfl k) ?_
    show Own.Fin p e below (T47.setTop (mkF m 164 #[.val (.int p1), .val (.int p2), .val (.int p3), .val (.int p4), .val (.int p5), .val (.int p6), .val (.int (2 : Int32)), .val (.long k1), .second, .val (.long k2), .second, .val (.long k3), .second, .val (.int d1), .val (.int d2), .val (.int d3), .val (.ref b33), .val (.double (F_st (2 : Int64) (k1 + k2) ((k1 * k1) + (k2 * k2)))), .second, .val (.long k1), .second, .val (.long (k1 * k1)), .second, .unset, .unset] [(.int (2 : Int32))])) _
    refine Own.go (fun t k => XS.iconst X47.here hx rfl (hb hby at_164) k) ?_
    show Own.Fin p e below (T47.setTop (mkF m 165 #[.val (.int p1), .val (.int p2), .val (.int p3), .val (.int p4), .val (.int p5), .val (.int p6), .val (.int (2 : Int32)), .val (.long k1), .second, .val (.long k2), .second, .val (.long k3), .second, .val (.int d1), .val (.int d2), .val (.int d3), .val (.ref b33), .val (.double (F_st (2 : Int64) (k1 + k2) ((k1 * k1) + (k2 * k2)))), .second, .val (.long k1), .second, .val (.long (k1 * k1)), .second, .unset, .unset] [(.int (2 : Int32)), (.int (2 : Int32))])) _
    have hc165_48 : ¬ ((2 : Int32) < (2 : Int32)) := by decide
    refine Own.go (fun t k => XS.icmpNo X47.here hx rfl (hb hby at_165) rfl (flt hc165_48).1 k) ?_
    show Own.Fin p e below (T47.setTop (mkF m 168 #[.val (.int p1), .val (.int p2), .val (.int p3), .val (.int p4), .val (.int p5), .val (.int p6), .val (.int (2 : Int32)), .val (.long k1), .second, .val (.long k2), .second, .val (.long k3), .second, .val (.int d1), .val (.int d2), .val (.int d3), .val (.ref b33), .val (.double (F_st (2 : Int64) (k1 + k2) ((k1 * k1) + (k2 * k2)))), .second, .val (.long k1), .second, .val (.long (k1 * k1)), .second, .unset, .unset] [])) _
    refine Own.go (fun t k => XS.lload X47.here hx rfl (hb hby at_168) rfl k) ?_
    show Own.Fin p e below (T47.setTop (mkF m 170 #[.val (.int p1), .val (.int p2), .val (.int p3), .val (.int p4), .val (.int p5), .val (.int p6), .val (.int (2 : Int32)), .val (.long k1), .second, .val (.long k2), .second, .val (.long k3), .second, .val (.int d1), .val (.int d2), .val (.int d3), .val (.ref b33), .val (.double (F_st (2 : Int64) (k1 + k2) ((k1 * k1) + (k2 * k2)))), .second, .val (.long k1), .second, .val (.long (k1 * k1)), .second, .unset, .unset] [(.long k1)])) _
    refine Own.go (fun t k => XS.lload X47.here hx rfl (hb hby at_170) rfl k) ?_
    show Own.Fin p e below (T47.setTop (mkF m 172 #[.val (.int p1), .val (.int p2), .val (.int p3), .val (.int p4), .val (.int p5), .val (.int p6), .val (.int (2 : Int32)), .val (.long k1), .second, .val (.long k2), .second, .val (.long k3), .second, .val (.int d1), .val (.int d2), .val (.int d3), .val (.ref b33), .val (.double (F_st (2 : Int64) (k1 + k2) ((k1 * k1) + (k2 * k2)))), .second, .val (.long k1), .second, .val (.long (k1 * k1)), .second, .unset, .unset] [(.long k2), (.long k1)])) _
    refine Own.go (fun t k => XS.ladd X47.here hx rfl (hb hby at_172) rfl k) ?_
    show Own.Fin p e below (T47.setTop (mkF m 173 #[.val (.int p1), .val (.int p2), .val (.int p3), .val (.int p4), .val (.int p5), .val (.int p6), .val (.int (2 : Int32)), .val (.long k1), .second, .val (.long k2), .second, .val (.long k3), .second, .val (.int d1), .val (.int d2), .val (.int d3), .val (.ref b33), .val (.double (F_st (2 : Int64) (k1 + k2) ((k1 * k1) + (k2 * k2)))), .second, .val (.long k1), .second, .val (.long (k1 * k1)), .second, .unset, .unset] [(.long (k1 + k2))])) _
    refine Own.go (fun t k => XS.lstore X47.here hx rfl (hb hby at_173) rfl (l' := #[.val (.int p1), .val (.int p2), .val (.int p3), .val (.int p4), .val (.int p5), .val (.int p6), .val (.int (2 : Int32)), .val (.long k1), .second, .val (.long k2), .second, .val (.long k3), .second, .val (.int d1), .val (.int d2), .val (.int d3), .val (.ref b33), .val (.double (F_st (2 : Int64) (k1 + k2) ((k1 * k1) + (k2 * k2)))), .second, .val (.long (k1 + k2)), .second, .val (.long (k1 * k1)), .second, .unset, .unset]) rfl k) ?_
    show Own.Fin p e below (T47.setTop (mkF m 175 #[.val (.int p1), .val (.int p2), .val (.int p3), .val (.int p4), .val (.int p5), .val (.int p6), .val (.int (2 : Int32)), .val (.long k1), .second, .val (.long k2), .second, .val (.long k3), .second, .val (.int d1), .val (.int d2), .val (.int d3), .val (.ref b33), .val (.double (F_st (2 : Int64) (k1 + k2) ((k1 * k1) + (k2 * k2)))), .second, .val (.long (k1 + k2)), .second, .val (.long (k1 * k1)), .second, .unset, .unset] [])) _
    refine Own.go (fun t k => XS.lload X47.here hx rfl (hb hby at_175) rfl k) ?_
    show Own.Fin p e below (T47.setTop (mkF m 177 #[.val (.int p1), .val (.int p2), .val (.int p3), .val (.int p4), .val (.int p5), .val (.int p6), .val (.int (2 : Int32)), .val (.long k1), .second, .val (.long k2), .second, .val (.long k3), .second, .val (.int d1), .val (.int d2), .val (.int d3), .val (.ref b33), .val (.double (F_st (2 : Int64) (k1 + k2) ((k1 * k1) + (k2 * k2)))), .second, .val (.long (k1 + k2)), .second, .val (.long (k1 * k1)), .second, .unset, .unset] [(.long (k1 * k1))])) _
    refine Own.go (fun t k => XS.lload X47.here hx rfl (hb hby at_177) rfl k) ?_
    show Own.Fin p e below (T47.setTop (mkF m 179 #[.val (.int p1), .val (.int p2), .val (.int p3), .val (.int p4), .val (.int p5), .val (.int p6), .val (.int (2 : Int32)), .val (.long k1), .second, .val (.long k2), .second, .val (.long k3), .second, .val (.int d1), .val (.int d2), .val (.int d3), .val (.ref b33), .val (.double (F_st (2 : Int64) (k1 + k2) ((k1 * k1) + (k2 * k2)))), .second, .val (.long (k1 + k2)), .second, .val (.long (k1 * k1)), .second, .unset, .unset] [(.long k2), (.long (k1 * k1))])) _
    refine Own.go (fun t k => XS.lload X47.here hx rfl (hb hby at_179) rfl k) ?_
    show Own.Fin p e below (T47.setTop (mkF m 181 #[.val (.int p1), .val (.int p2), .val (.int p3), .val (.int p4), .val (.int p5), .val (.int p6), .val (.int (2 : Int32)), .val (.long k1), .second, .val (.long k2), .second, .val (.long k3), .second, .val (.int d1), .val (.int d2), .val (.int d3), .val (.ref b33), .val (.double (F_st (2 : Int64) (k1 + k2) ((k1 * k1) + (k2 * k2)))), .second, .val (.long (k1 + k2)), .second, .val (.long (k1 * k1)), .second, .unset, .unset] [(.long k2), (.long k2), (.long (k1 * k1))])) _
    refine Own.go (fun t k => XS.lmul X47.here hx rfl (hb hby at_181) rfl k) ?_
    show Own.Fin p e below (T47.setTop (mkF m 182 #[.val (.int p1), .val (.int p2), .val (.int p3), .val (.int p4), .val (.int p5), .val (.int p6), .val (.int (2 : Int32)), .val (.long k1), .second, .val (.long k2), .second, .val (.long k3), .second, .val (.int d1), .val (.int d2), .val (.int d3), .val (.ref b33), .val (.double (F_st (2 : Int64) (k1 + k2) ((k1 * k1) + (k2 * k2)))), .second, .val (.long (k1 + k2)), .second, .val (.long (k1 * k1)), .second, .unset, .unset] [(.long (k2 * k2)), (.long (k1 * k1))])) _
    refine Own.go (fun t k => XS.ladd X47.here hx rfl (hb hby at_182) rfl k) ?_
    show Own.Fin p e below (T47.setTop (mkF m 183 #[.val (.int p1), .val (.int p2), .val (.int p3), .val (.int p4), .val (.int p5), .val (.int p6), .val (.int (2 : Int32)), .val (.long k1), .second, .val (.long k2), .second, .val (.long k3), .second, .val (.int d1), .val (.int d2), .val (.int d3), .val (.ref b33), .val (.double (F_st (2 : Int64) (k1 + k2) ((k1 * k1) + (k2 * k2)))), .second, .val (.long (k1 + k2)), .second, .val (.long (k1 * k1)), .second, .unset, .unset] [(.long ((k1 * k1) + (k2 * k2)))])) _
    refine Own.go (fun t k => XS.lstore X47.here hx rfl (hb hby at_183) rfl (l' := #[.val (.int p1), .val (.int p2), .val (.int p3), .val (.int p4), .val (.int p5), .val (.int p6), .val (.int (2 : Int32)), .val (.long k1), .second, .val (.long k2), .second, .val (.long k3), .second, .val (.int d1), .val (.int d2), .val (.int d3), .val (.ref b33), .val (.double (F_st (2 : Int64) (k1 + k2) ((k1 * k1) + (k2 * k2)))), .second, .val (.long (k1 + k2)), .second, .val (.long ((k1 * k1) + (k2 * k2))), .second, .unset, .unset]) rfl k) ?_
    show Own.Fin p e below (T47.setTop (mkF m 185 #[.val (.int p1), .val (.int p2), .val (.int p3), .val (.int p4), .val (.int p5), .val (.int p6), .val (.int (2 : Int32)), .val (.long k1), .second, .val (.long k2), .second, .val (.long k3), .second, .val (.int d1), .val (.int d2), .val (.int d3), .val (.ref b33), .val (.double (F_st (2 : Int64) (k1 + k2) ((k1 * k1) + (k2 * k2)))), .second, .val (.long (k1 + k2)), .second, .val (.long ((k1 * k1) + (k2 * k2))), .second, .unset, .unset] [])) _
    refine Own.go (fun t k => XS.iload X47.here hx rfl (hb hby at_185) rfl k) ?_
    show Own.Fin p e below (T47.setTop (mkF m 187 #[.val (.int p1), .val (.int p2), .val (.int p3), .val (.int p4), .val (.int p5), .val (.int p6), .val (.int (2 : Int32)), .val (.long k1), .second, .val (.long k2), .second, .val (.long k3), .second, .val (.int d1), .val (.int d2), .val (.int d3), .val (.ref b33), .val (.double (F_st (2 : Int64) (k1 + k2) ((k1 * k1) + (k2 * k2)))), .second, .val (.long (k1 + k2)), .second, .val (.long ((k1 * k1) + (k2 * k2))), .second, .unset, .unset] [(.int (2 : Int32))])) _
    refine Own.go (fun t k => XS.iconst X47.here hx rfl (hb hby at_187) k) ?_
    show Own.Fin p e below (T47.setTop (mkF m 188 #[.val (.int p1), .val (.int p2), .val (.int p3), .val (.int p4), .val (.int p5), .val (.int p6), .val (.int (2 : Int32)), .val (.long k1), .second, .val (.long k2), .second, .val (.long k3), .second, .val (.int d1), .val (.int d2), .val (.int d3), .val (.ref b33), .val (.double (F_st (2 : Int64) (k1 + k2) ((k1 * k1) + (k2 * k2)))), .second, .val (.long (k1 + k2)), .second, .val (.long ((k1 * k1) + (k2 * k2))), .second, .unset, .unset] [(.int (3 : Int32)), (.int (2 : Int32))])) _
    have hc188_49 : (2 : Int32) < (3 : Int32) := by decide
    refine Own.go (fun t k => XS.icmpYes X47.here hx rfl (pc0 := 188) (pc' := 208) rfl (hb hby at_188) rfl (tlt hc188_49).1 (by decide) (by decide) k) ?_
    show Own.Fin p e below (T47.setTop (mkF m 208 #[.val (.int p1), .val (.int p2), .val (.int p3), .val (.int p4), .val (.int p5), .val (.int p6), .val (.int (2 : Int32)), .val (.long k1), .second, .val (.long k2), .second, .val (.long k3), .second, .val (.int d1), .val (.int d2), .val (.int d3), .val (.ref b33), .val (.double (F_st (2 : Int64) (k1 + k2) ((k1 * k1) + (k2 * k2)))), .second, .val (.long (k1 + k2)), .second, .val (.long ((k1 * k1) + (k2 * k2))), .second, .unset, .unset] [])) _
    refine Own.go (fun t k => XS.lload X47.here hx rfl (hb hby at_208) rfl k) ?_
    show Own.Fin p e below (T47.setTop (mkF m 210 #[.val (.int p1), .val (.int p2), .val (.int p3), .val (.int p4), .val (.int p5), .val (.int p6), .val (.int (2 : Int32)), .val (.long k1), .second, .val (.long k2), .second, .val (.long k3), .second, .val (.int d1), .val (.int d2), .val (.int d3), .val (.ref b33), .val (.double (F_st (2 : Int64) (k1 + k2) ((k1 * k1) + (k2 * k2)))), .second, .val (.long (k1 + k2)), .second, .val (.long ((k1 * k1) + (k2 * k2))), .second, .unset, .unset] [(.long ((k1 * k1) + (k2 * k2)))])) _
    refine Own.go (fun t k => XS.lconst X47.here hx rfl (hb hby at_210) k) ?_
    show Own.Fin p e below (T47.setTop (mkF m 211 #[.val (.int p1), .val (.int p2), .val (.int p3), .val (.int p4), .val (.int p5), .val (.int p6), .val (.int (2 : Int32)), .val (.long k1), .second, .val (.long k2), .second, .val (.long k3), .second, .val (.int d1), .val (.int d2), .val (.int d3), .val (.ref b33), .val (.double (F_st (2 : Int64) (k1 + k2) ((k1 * k1) + (k2 * k2)))), .second, .val (.long (k1 + k2)), .second, .val (.long ((k1 * k1) + (k2 * k2))), .second, .unset, .unset] [(.long (0 : Int64)), (.long ((k1 * k1) + (k2 * k2)))])) _
    refine Own.go (fun t k => XS.lcmp X47.here hx rfl (hb hby at_211) rfl k) ?_
    show Own.Fin p e below (T47.setTop (mkF m 212 #[.val (.int p1), .val (.int p2), .val (.int p3), .val (.int p4), .val (.int p5), .val (.int p6), .val (.int (2 : Int32)), .val (.long k1), .second, .val (.long k2), .second, .val (.long k3), .second, .val (.int d1), .val (.int d2), .val (.int d3), .val (.ref b33), .val (.double (F_st (2 : Int64) (k1 + k2) ((k1 * k1) + (k2 * k2)))), .second, .val (.long (k1 + k2)), .second, .val (.long ((k1 * k1) + (k2 * k2))), .second, .unset, .unset] [(.int (lcmpW ((k1 * k1) + (k2 * k2)) (0 : Int64)))])) _
    by_cases hc212_50 : (lcmpW ((k1 * k1) + (k2 * k2)) (0 : Int64)) = (0 : Int32)
    · skip
      refine Own.go (fun t k => XS.ifNo X47.here hx rfl (hb hby at_212) rfl ((if0 _ _).trans (teq hc212_50).2) k) ?_
      show Own.Fin p e below (T47.setTop (mkF m 215 #[.val (.int p1), .val (.int p2), .val (.int p3), .val (.int p4), .val (.int p5), .val (.int p6), .val (.int (2 : Int32)), .val (.long k1), .second, .val (.long k2), .second, .val (.long k3), .second, .val (.int d1), .val (.int d2), .val (.int d3), .val (.ref b33), .val (.double (F_st (2 : Int64) (k1 + k2) ((k1 * k1) + (k2 * k2)))), .second, .val (.long (k1 + k2)), .second, .val (.long ((k1 * k1) + (k2 * k2))), .second, .unset, .unset] [])) _
      refine Own.go (fun t k => XS.dload X47.here hx rfl (hb hby at_215) rfl k) ?_
      show Own.Fin p e below (T47.setTop (mkF m 217 #[.val (.int p1), .val (.int p2), .val (.int p3), .val (.int p4), .val (.int p5), .val (.int p6), .val (.int (2 : Int32)), .val (.long k1), .second, .val (.long k2), .second, .val (.long k3), .second, .val (.int d1), .val (.int d2), .val (.int d3), .val (.ref b33), .val (.double (F_st (2 : Int64) (k1 + k2) ((k1 * k1) + (k2 * k2)))), .second, .val (.long (k1 + k2)), .second, .val (.long ((k1 * k1) + (k2 * k2))), .second, .unset, .unset] [(.double (F_st (2 : Int64) (k1 + k2) ((k1 * k1) + (k2 * k2))))])) _
      refine Own.go (fun t k => XS.dconst1 X47.here hx rfl (hb hby at_217) own_d1 k) ?_
      show Own.Fin p e below (T47.setTop (mkF m 218 #[.val (.int p1), .val (.int p2), .val (.int p3), .val (.int p4), .val (.int p5), .val (.int p6), .val (.int (2 : Int32)), .val (.long k1), .second, .val (.long k2), .second, .val (.long k3), .second, .val (.int d1), .val (.int d2), .val (.int d3), .val (.ref b33), .val (.double (F_st (2 : Int64) (k1 + k2) ((k1 * k1) + (k2 * k2)))), .second, .val (.long (k1 + k2)), .second, .val (.long ((k1 * k1) + (k2 * k2))), .second, .unset, .unset] [(.double (FP.l2d 1)), (.double (F_st (2 : Int64) (k1 + k2) ((k1 * k1) + (k2 * k2))))])) _
      refine Own.go (fun t k => XS.dcmpS (v := (0 : Int32)) X47.here hx rfl (hb hby at_218) rfl (by rw [F_st, if_neg (by decide), if_pos hc212_50]; exact dcmpV_self (own_l2dnn _) _) k) ?_
      show Own.Fin p e below (T47.setTop (mkF m 219 #[.val (.int p1), .val (.int p2), .val (.int p3), .val (.int p4), .val (.int p5), .val (.int p6), .val (.int (2 : Int32)), .val (.long k1), .second, .val (.long k2), .second, .val (.long k3), .second, .val (.int d1), .val (.int d2), .val (.int d3), .val (.ref b33), .val (.double (F_st (2 : Int64) (k1 + k2) ((k1 * k1) + (k2 * k2)))), .second, .val (.long (k1 + k2)), .second, .val (.long ((k1 * k1) + (k2 * k2))), .second, .unset, .unset] [(.int (0 : Int32))])) _
      have hc219_51 : (0 : Int32) = (0 : Int32) := by decide
      refine Own.go (fun t k => XS.ifNo X47.here hx rfl (hb hby at_219) rfl ((if0 _ _).trans (teq hc219_51).2) k) ?_
      show Own.Fin p e below (T47.setTop (mkF m 222 #[.val (.int p1), .val (.int p2), .val (.int p3), .val (.int p4), .val (.int p5), .val (.int p6), .val (.int (2 : Int32)), .val (.long k1), .second, .val (.long k2), .second, .val (.long k3), .second, .val (.int d1), .val (.int d2), .val (.int d3), .val (.ref b33), .val (.double (F_st (2 : Int64) (k1 + k2) ((k1 * k1) + (k2 * k2)))), .second, .val (.long (k1 + k2)), .second, .val (.long ((k1 * k1) + (k2 * k2))), .second, .unset, .unset] [])) _
      refine Own.go (fun t k => XS.iconst X47.here hx rfl (hb hby at_222) k) ?_
      show Own.Fin p e below (T47.setTop (mkF m 223 #[.val (.int p1), .val (.int p2), .val (.int p3), .val (.int p4), .val (.int p5), .val (.int p6), .val (.int (2 : Int32)), .val (.long k1), .second, .val (.long k2), .second, .val (.long k3), .second, .val (.int d1), .val (.int d2), .val (.int d3), .val (.ref b33), .val (.double (F_st (2 : Int64) (k1 + k2) ((k1 * k1) + (k2 * k2)))), .second, .val (.long (k1 + k2)), .second, .val (.long ((k1 * k1) + (k2 * k2))), .second, .unset, .unset] [(.int (1 : Int32))])) _
      refine Own.go (fun t k => XS.goto X47.here hx rfl (pc0 := 223) (pc' := 227) rfl (hb hby at_223) (by decide) (by decide) k) ?_
      show Own.Fin p e below (T47.setTop (mkF m 227 #[.val (.int p1), .val (.int p2), .val (.int p3), .val (.int p4), .val (.int p5), .val (.int p6), .val (.int (2 : Int32)), .val (.long k1), .second, .val (.long k2), .second, .val (.long k3), .second, .val (.int d1), .val (.int d2), .val (.int d3), .val (.ref b33), .val (.double (F_st (2 : Int64) (k1 + k2) ((k1 * k1) + (k2 * k2)))), .second, .val (.long (k1 + k2)), .second, .val (.long ((k1 * k1) + (k2 * k2))), .second, .unset, .unset] [(.int (1 : Int32))])) _
      refine Own.retN X47 hx Bd.notSynchronized (t := .boolean) Bd.returns (by simp) (hb hby at_227) (by decide) (by decide) ?_
      exact ⟨rfl, N47⟩
    · skip
      refine Own.go (fun t k => XS.ifYes X47.here hx rfl (pc0 := 212) (pc' := 228) rfl (hb hby at_212) rfl ((if0 _ _).trans (feq hc212_50).2) (by decide) (by decide) k) ?_
      show Own.Fin p e below (T47.setTop (mkF m 228 #[.val (.int p1), .val (.int p2), .val (.int p3), .val (.int p4), .val (.int p5), .val (.int p6), .val (.int (2 : Int32)), .val (.long k1), .second, .val (.long k2), .second, .val (.long k3), .second, .val (.int d1), .val (.int d2), .val (.int d3), .val (.ref b33), .val (.double (F_st (2 : Int64) (k1 + k2) ((k1 * k1) + (k2 * k2)))), .second, .val (.long (k1 + k2)), .second, .val (.long ((k1 * k1) + (k2 * k2))), .second, .unset, .unset] [])) _
      refine Own.go (fun t k => XS.dconst1 X47.here hx rfl (hb hby at_228) own_d1 k) ?_
      show Own.Fin p e below (T47.setTop (mkF m 229 #[.val (.int p1), .val (.int p2), .val (.int p3), .val (.int p4), .val (.int p5), .val (.int p6), .val (.int (2 : Int32)), .val (.long k1), .second, .val (.long k2), .second, .val (.long k3), .second, .val (.int d1), .val (.int d2), .val (.int d3), .val (.ref b33), .val (.double (F_st (2 : Int64) (k1 + k2) ((k1 * k1) + (k2 * k2)))), .second, .val (.long (k1 + k2)), .second, .val (.long ((k1 * k1) + (k2 * k2))), .second, .unset, .unset] [(.double (FP.l2d 1))])) _
      refine Own.go (fun t k => XS.lload X47.here hx rfl (hb hby at_229) rfl k) ?_
      show Own.Fin p e below (T47.setTop (mkF m 231 #[.val (.int p1), .val (.int p2), .val (.int p3), .val (.int p4), .val (.int p5), .val (.int p6), .val (.int (2 : Int32)), .val (.long k1), .second, .val (.long k2), .second, .val (.long k3), .second, .val (.int d1), .val (.int d2), .val (.int d3), .val (.ref b33), .val (.double (F_st (2 : Int64) (k1 + k2) ((k1 * k1) + (k2 * k2)))), .second, .val (.long (k1 + k2)), .second, .val (.long ((k1 * k1) + (k2 * k2))), .second, .unset, .unset] [(.long (k1 + k2)), (.double (FP.l2d 1))])) _
      refine Own.go (fun t k => XS.lload X47.here hx rfl (hb hby at_231) rfl k) ?_
      show Own.Fin p e below (T47.setTop (mkF m 233 #[.val (.int p1), .val (.int p2), .val (.int p3), .val (.int p4), .val (.int p5), .val (.int p6), .val (.int (2 : Int32)), .val (.long k1), .second, .val (.long k2), .second, .val (.long k3), .second, .val (.int d1), .val (.int d2), .val (.int d3), .val (.ref b33), .val (.double (F_st (2 : Int64) (k1 + k2) ((k1 * k1) + (k2 * k2)))), .second, .val (.long (k1 + k2)), .second, .val (.long ((k1 * k1) + (k2 * k2))), .second, .unset, .unset] [(.long (k1 + k2)), (.long (k1 + k2)), (.double (FP.l2d 1))])) _
      refine Own.go (fun t k => XS.lmul X47.here hx rfl (hb hby at_233) rfl k) ?_
      show Own.Fin p e below (T47.setTop (mkF m 234 #[.val (.int p1), .val (.int p2), .val (.int p3), .val (.int p4), .val (.int p5), .val (.int p6), .val (.int (2 : Int32)), .val (.long k1), .second, .val (.long k2), .second, .val (.long k3), .second, .val (.int d1), .val (.int d2), .val (.int d3), .val (.ref b33), .val (.double (F_st (2 : Int64) (k1 + k2) ((k1 * k1) + (k2 * k2)))), .second, .val (.long (k1 + k2)), .second, .val (.long ((k1 * k1) + (k2 * k2))), .second, .unset, .unset] [(.long ((k1 + k2) * (k1 + k2))), (.double (FP.l2d 1))])) _
      refine Own.go (fun t k => XS.l2dS X47.here hx rfl (hb hby at_234) rfl rfl k) ?_
      show Own.Fin p e below (T47.setTop (mkF m 235 #[.val (.int p1), .val (.int p2), .val (.int p3), .val (.int p4), .val (.int p5), .val (.int p6), .val (.int (2 : Int32)), .val (.long k1), .second, .val (.long k2), .second, .val (.long k3), .second, .val (.int d1), .val (.int d2), .val (.int d3), .val (.ref b33), .val (.double (F_st (2 : Int64) (k1 + k2) ((k1 * k1) + (k2 * k2)))), .second, .val (.long (k1 + k2)), .second, .val (.long ((k1 * k1) + (k2 * k2))), .second, .unset, .unset] [(.double (FP.l2d ((k1 + k2) * (k1 + k2)))), (.double (FP.l2d 1))])) _
      refine Own.go (fun t k => XS.iload X47.here hx rfl (hb hby at_235) rfl k) ?_
      show Own.Fin p e below (T47.setTop (mkF m 237 #[.val (.int p1), .val (.int p2), .val (.int p3), .val (.int p4), .val (.int p5), .val (.int p6), .val (.int (2 : Int32)), .val (.long k1), .second, .val (.long k2), .second, .val (.long k3), .second, .val (.int d1), .val (.int d2), .val (.int d3), .val (.ref b33), .val (.double (F_st (2 : Int64) (k1 + k2) ((k1 * k1) + (k2 * k2)))), .second, .val (.long (k1 + k2)), .second, .val (.long ((k1 * k1) + (k2 * k2))), .second, .unset, .unset] [(.int (2 : Int32)), (.double (FP.l2d ((k1 + k2) * (k1 + k2)))), (.double (FP.l2d 1))])) _
      refine Own.go (fun t k => XS.i2l X47.here hx rfl (hb hby at_237) rfl k) ?_
      show Own.Fin p e below (T47.setTop (mkF m 238 #[.val (.int p1), .val (.int p2), .val (.int p3), .val (.int p4), .val (.int p5), .val (.int p6), .val (.int (2 : Int32)), .val (.long k1), .second, .val (.long k2), .second, .val (.long k3), .second, .val (.int d1), .val (.int d2), .val (.int d3), .val (.ref b33), .val (.double (F_st (2 : Int64) (k1 + k2) ((k1 * k1) + (k2 * k2)))), .second, .val (.long (k1 + k2)), .second, .val (.long ((k1 * k1) + (k2 * k2))), .second, .unset, .unset] [(.long (((2 : Int32)).toInt64)), (.double (FP.l2d ((k1 + k2) * (k1 + k2)))), (.double (FP.l2d 1))])) _
      rw [show ((2 : Int32)).toInt64 = (2 : Int64) by decide]
      show Own.Fin p e below (T47.setTop (mkF m 238 #[.val (.int p1), .val (.int p2), .val (.int p3), .val (.int p4), .val (.int p5), .val (.int p6), .val (.int (2 : Int32)), .val (.long k1), .second, .val (.long k2), .second, .val (.long k3), .second, .val (.int d1), .val (.int d2), .val (.int d3), .val (.ref b33), .val (.double (F_st (2 : Int64) (k1 + k2) ((k1 * k1) + (k2 * k2)))), .second, .val (.long (k1 + k2)), .second, .val (.long ((k1 * k1) + (k2 * k2))), .second, .unset, .unset] [(.long (2 : Int64)), (.double (FP.l2d ((k1 + k2) * (k1 + k2)))), (.double (FP.l2d 1))])) _
      refine Own.go (fun t k => XS.lload X47.here hx rfl (hb hby at_238) rfl k) ?_
      show Own.Fin p e below (T47.setTop (mkF m 240 #[.val (.int p1), .val (.int p2), .val (.int p3), .val (.int p4), .val (.int p5), .val (.int p6), .val (.int (2 : Int32)), .val (.long k1), .second, .val (.long k2), .second, .val (.long k3), .second, .val (.int d1), .val (.int d2), .val (.int d3), .val (.ref b33), .val (.double (F_st (2 : Int64) (k1 + k2) ((k1 * k1) + (k2 * k2)))), .second, .val (.long (k1 + k2)), .second, .val (.long ((k1 * k1) + (k2 * k2))), .second, .unset, .unset] [(.long ((k1 * k1) + (k2 * k2))), (.long (2 : Int64)), (.double (FP.l2d ((k1 + k2) * (k1 + k2)))), (.double (FP.l2d 1))])) _
      refine Own.go (fun t k => XS.lmul X47.here hx rfl (hb hby at_240) rfl k) ?_
      show Own.Fin p e below (T47.setTop (mkF m 241 #[.val (.int p1), .val (.int p2), .val (.int p3), .val (.int p4), .val (.int p5), .val (.int p6), .val (.int (2 : Int32)), .val (.long k1), .second, .val (.long k2), .second, .val (.long k3), .second, .val (.int d1), .val (.int d2), .val (.int d3), .val (.ref b33), .val (.double (F_st (2 : Int64) (k1 + k2) ((k1 * k1) + (k2 * k2)))), .second, .val (.long (k1 + k2)), .second, .val (.long ((k1 * k1) + (k2 * k2))), .second, .unset, .unset] [(.long ((2 : Int64) * ((k1 * k1) + (k2 * k2)))), (.double (FP.l2d ((k1 + k2) * (k1 + k2)))), (.double (FP.l2d 1))])) _
      refine Own.go (fun t k => XS.l2dS X47.here hx rfl (hb hby at_241) rfl rfl k) ?_
      show Own.Fin p e below (T47.setTop (mkF m 242 #[.val (.int p1), .val (.int p2), .val (.int p3), .val (.int p4), .val (.int p5), .val (.int p6), .val (.int (2 : Int32)), .val (.long k1), .second, .val (.long k2), .second, .val (.long k3), .second, .val (.int d1), .val (.int d2), .val (.int d3), .val (.ref b33), .val (.double (F_st (2 : Int64) (k1 + k2) ((k1 * k1) + (k2 * k2)))), .second, .val (.long (k1 + k2)), .second, .val (.long ((k1 * k1) + (k2 * k2))), .second, .unset, .unset] [(.double (FP.l2d ((2 : Int64) * ((k1 * k1) + (k2 * k2))))), (.double (FP.l2d ((k1 + k2) * (k1 + k2)))), (.double (FP.l2d 1))])) _
      refine Own.go (fun t k => XS.ddivS X47.here hx rfl (hb hby at_242) rfl (own_nn (own_x ⟨by decide, by decide⟩ ⟨hr2.1, Int.le_trans hr2.2 (by decide)⟩ ⟨hq2.1, Int.le_trans hq2.2 (by decide)⟩ hcs (by decide) hc212_50).1) rfl k) ?_
      show Own.Fin p e below (T47.setTop (mkF m 243 #[.val (.int p1), .val (.int p2), .val (.int p3), .val (.int p4), .val (.int p5), .val (.int p6), .val (.int (2 : Int32)), .val (.long k1), .second, .val (.long k2), .second, .val (.long k3), .second, .val (.int d1), .val (.int d2), .val (.int d3), .val (.ref b33), .val (.double (F_st (2 : Int64) (k1 + k2) ((k1 * k1) + (k2 * k2)))), .second, .val (.long (k1 + k2)), .second, .val (.long ((k1 * k1) + (k2 * k2))), .second, .unset, .unset] [(.double (FP.ddiv (FP.l2d ((k1 + k2) * (k1 + k2))) (FP.l2d ((2 : Int64) * ((k1 * k1) + (k2 * k2)))))), (.double (FP.l2d 1))])) _
      refine Own.go (fun t k => XS.dsubS X47.here hx rfl (hb hby at_243) rfl (own_nn (own_x ⟨by decide, by decide⟩ ⟨hr2.1, Int.le_trans hr2.2 (by decide)⟩ ⟨hq2.1, Int.le_trans hq2.2 (by decide)⟩ hcs (by decide) hc212_50).2.1) rfl k) ?_
      show Own.Fin p e below (T47.setTop (mkF m 244 #[.val (.int p1), .val (.int p2), .val (.int p3), .val (.int p4), .val (.int p5), .val (.int p6), .val (.int (2 : Int32)), .val (.long k1), .second, .val (.long k2), .second, .val (.long k3), .second, .val (.int d1), .val (.int d2), .val (.int d3), .val (.ref b33), .val (.double (F_st (2 : Int64) (k1 + k2) ((k1 * k1) + (k2 * k2)))), .second, .val (.long (k1 + k2)), .second, .val (.long ((k1 * k1) + (k2 * k2))), .second, .unset, .unset] [(.double (F_x (2 : Int64) (k1 + k2) ((k1 * k1) + (k2 * k2))))])) _
      refine Own.go (fun t k => XS.dstore X47.here hx rfl (hb hby at_244) rfl (l' := #[.val (.int p1), .val (.int p2), .val (.int p3), .val (.int p4), .val (.int p5), .val (.int p6), .val (.int (2 : Int32)), .val (.long k1), .second, .val (.long k2), .second, .val (.long k3), .second, .val (.int d1), .val (.int d2), .val (.int d3), .val (.ref b33), .val (.double (F_st (2 : Int64) (k1 + k2) ((k1 * k1) + (k2 * k2)))), .second, .val (.long (k1 + k2)), .second, .val (.long ((k1 * k1) + (k2 * k2))), .second, .val (.double (F_x (2 : Int64) (k1 + k2) ((k1 * k1) + (k2 * k2)))), .second]) rfl k) ?_
      show Own.Fin p e below (T47.setTop (mkF m 246 #[.val (.int p1), .val (.int p2), .val (.int p3), .val (.int p4), .val (.int p5), .val (.int p6), .val (.int (2 : Int32)), .val (.long k1), .second, .val (.long k2), .second, .val (.long k3), .second, .val (.int d1), .val (.int d2), .val (.int d3), .val (.ref b33), .val (.double (F_st (2 : Int64) (k1 + k2) ((k1 * k1) + (k2 * k2)))), .second, .val (.long (k1 + k2)), .second, .val (.long ((k1 * k1) + (k2 * k2))), .second, .val (.double (F_x (2 : Int64) (k1 + k2) ((k1 * k1) + (k2 * k2)))), .second] [])) _
      refine Own.go (fun t k => XS.dload X47.here hx rfl (hb hby at_246) rfl k) ?_
      show Own.Fin p e below (T47.setTop (mkF m 248 #[.val (.int p1), .val (.int p2), .val (.int p3), .val (.int p4), .val (.int p5), .val (.int p6), .val (.int (2 : Int32)), .val (.long k1), .second, .val (.long k2), .second, .val (.long k3), .second, .val (.int d1), .val (.int d2), .val (.int d3), .val (.ref b33), .val (.double (F_st (2 : Int64) (k1 + k2) ((k1 * k1) + (k2 * k2)))), .second, .val (.long (k1 + k2)), .second, .val (.long ((k1 * k1) + (k2 * k2))), .second, .val (.double (F_x (2 : Int64) (k1 + k2) ((k1 * k1) + (k2 * k2)))), .second] [(.double (F_st (2 : Int64) (k1 + k2) ((k1 * k1) + (k2 * k2))))])) _
      refine Own.go (fun t k => XS.dload X47.here hx rfl (hb hby at_248) rfl k) ?_
      show Own.Fin p e below (T47.setTop (mkF m 250 #[.val (.int p1), .val (.int p2), .val (.int p3), .val (.int p4), .val (.int p5), .val (.int p6), .val (.int (2 : Int32)), .val (.long k1), .second, .val (.long k2), .second, .val (.long k3), .second, .val (.int d1), .val (.int d2), .val (.int d3), .val (.ref b33), .val (.double (F_st (2 : Int64) (k1 + k2) ((k1 * k1) + (k2 * k2)))), .second, .val (.long (k1 + k2)), .second, .val (.long ((k1 * k1) + (k2 * k2))), .second, .val (.double (F_x (2 : Int64) (k1 + k2) ((k1 * k1) + (k2 * k2)))), .second] [(.double (F_x (2 : Int64) (k1 + k2) ((k1 * k1) + (k2 * k2)))), (.double (F_st (2 : Int64) (k1 + k2) ((k1 * k1) + (k2 * k2))))])) _
      refine Own.go (fun t k => XS.dcmpS (v := (0 : Int32)) X47.here hx rfl (hb hby at_250) rfl (by rw [F_st, if_neg (by decide), if_neg hc212_50]; exact own_pick (own_x ⟨by decide, by decide⟩ ⟨hr2.1, Int.le_trans hr2.2 (by decide)⟩ ⟨hq2.1, Int.le_trans hq2.2 (by decide)⟩ hcs (by decide) hc212_50).2.1 (own_x ⟨by decide, by decide⟩ ⟨hr2.1, Int.le_trans hr2.2 (by decide)⟩ ⟨hq2.1, Int.le_trans hq2.2 (by decide)⟩ hcs (by decide) hc212_50).2.2) k) ?_
      show Own.Fin p e below (T47.setTop (mkF m 251 #[.val (.int p1), .val (.int p2), .val (.int p3), .val (.int p4), .val (.int p5), .val (.int p6), .val (.int (2 : Int32)), .val (.long k1), .second, .val (.long k2), .second, .val (.long k3), .second, .val (.int d1), .val (.int d2), .val (.int d3), .val (.ref b33), .val (.double (F_st (2 : Int64) (k1 + k2) ((k1 * k1) + (k2 * k2)))), .second, .val (.long (k1 + k2)), .second, .val (.long ((k1 * k1) + (k2 * k2))), .second, .val (.double (F_x (2 : Int64) (k1 + k2) ((k1 * k1) + (k2 * k2)))), .second] [(.int (0 : Int32))])) _
      have hc251_52 : (0 : Int32) = (0 : Int32) := by decide
      refine Own.go (fun t k => XS.ifNo X47.here hx rfl (hb hby at_251) rfl ((if0 _ _).trans (teq hc251_52).2) k) ?_
      show Own.Fin p e below (T47.setTop (mkF m 254 #[.val (.int p1), .val (.int p2), .val (.int p3), .val (.int p4), .val (.int p5), .val (.int p6), .val (.int (2 : Int32)), .val (.long k1), .second, .val (.long k2), .second, .val (.long k3), .second, .val (.int d1), .val (.int d2), .val (.int d3), .val (.ref b33), .val (.double (F_st (2 : Int64) (k1 + k2) ((k1 * k1) + (k2 * k2)))), .second, .val (.long (k1 + k2)), .second, .val (.long ((k1 * k1) + (k2 * k2))), .second, .val (.double (F_x (2 : Int64) (k1 + k2) ((k1 * k1) + (k2 * k2)))), .second] [])) _
      refine Own.go (fun t k => XS.iconst X47.here hx rfl (hb hby at_254) k) ?_
      show Own.Fin p e below (T47.setTop (mkF m 255 #[.val (.int p1), .val (.int p2), .val (.int p3), .val (.int p4), .val (.int p5), .val (.int p6), .val (.int (2 : Int32)), .val (.long k1), .second, .val (.long k2), .second, .val (.long k3), .second, .val (.int d1), .val (.int d2), .val (.int d3), .val (.ref b33), .val (.double (F_st (2 : Int64) (k1 + k2) ((k1 * k1) + (k2 * k2)))), .second, .val (.long (k1 + k2)), .second, .val (.long ((k1 * k1) + (k2 * k2))), .second, .val (.double (F_x (2 : Int64) (k1 + k2) ((k1 * k1) + (k2 * k2)))), .second] [(.int (1 : Int32))])) _
      refine Own.go (fun t k => XS.goto X47.here hx rfl (pc0 := 255) (pc' := 259) rfl (hb hby at_255) (by decide) (by decide) k) ?_
      show Own.Fin p e below (T47.setTop (mkF m 259 #[.val (.int p1), .val (.int p2), .val (.int p3), .val (.int p4), .val (.int p5), .val (.int p6), .val (.int (2 : Int32)), .val (.long k1), .second, .val (.long k2), .second, .val (.long k3), .second, .val (.int d1), .val (.int d2), .val (.int d3), .val (.ref b33), .val (.double (F_st (2 : Int64) (k1 + k2) ((k1 * k1) + (k2 * k2)))), .second, .val (.long (k1 + k2)), .second, .val (.long ((k1 * k1) + (k2 * k2))), .second, .val (.double (F_x (2 : Int64) (k1 + k2) ((k1 * k1) + (k2 * k2)))), .second] [(.int (1 : Int32))])) _
      refine Own.retN X47 hx Bd.notSynchronized (t := .boolean) Bd.returns (by simp) (hb hby at_259) (by decide) (by decide) ?_
      exact ⟨rfl, N47⟩
  · rw [hn4]
    show Own.Fin p e below (s₁.setTop (mkF m 3 #[.val (.int p1), .val (.int p2), .val (.int p3), .val (.int p4), .val (.int p5), .val (.int p6), .unset, .unset, .unset, .unset, .unset, .unset, .unset, .unset, .unset, .unset, .unset, .unset, .unset, .unset, .unset, .unset, .unset, .unset, .unset] [(.int (3 : Int32))])) _
    refine Own.go (fun t k => XS.istore X0.here hx rfl (hb hby at_3) rfl (l' := #[.val (.int p1), .val (.int p2), .val (.int p3), .val (.int p4), .val (.int p5), .val (.int p6), .val (.int (3 : Int32)), .unset, .unset, .unset, .unset, .unset, .unset, .unset, .unset, .unset, .unset, .unset, .unset, .unset, .unset, .unset, .unset, .unset, .unset]) rfl k) ?_
    show Own.Fin p e below (s₁.setTop (mkF m 5 #[.val (.int p1), .val (.int p2), .val (.int p3), .val (.int p4), .val (.int p5), .val (.int p6), .val (.int (3 : Int32)), .unset, .unset, .unset, .unset, .unset, .unset, .unset, .unset, .unset, .unset, .unset, .unset, .unset, .unset, .unset, .unset, .unset, .unset] [])) _
    refine Own.go (fun t k => XS.iloadN X0.here hx rfl (hb hby at_5) rfl k) ?_
    show Own.Fin p e below (s₁.setTop (mkF m 6 #[.val (.int p1), .val (.int p2), .val (.int p3), .val (.int p4), .val (.int p5), .val (.int p6), .val (.int (3 : Int32)), .unset, .unset, .unset, .unset, .unset, .unset, .unset, .unset, .unset, .unset, .unset, .unset, .unset, .unset, .unset, .unset, .unset, .unset] [(.int p1)])) _
    refine Own.go (fun t k => XS.iconst X0.here hx rfl (hb hby at_6) k) ?_
    show Own.Fin p e below (s₁.setTop (mkF m 7 #[.val (.int p1), .val (.int p2), .val (.int p3), .val (.int p4), .val (.int p5), .val (.int p6), .val (.int (3 : Int32)), .unset, .unset, .unset, .unset, .unset, .unset, .unset, .unset, .unset, .unset, .unset, .unset, .unset, .unset, .unset, .unset, .unset, .unset] [(.int (2 : Int32)), (.int p1)])) _
    refine Own.go (fun t k => XS.iushr X0.here hx rfl (hb hby at_7) rfl k) ?_
    show Own.Fin p e below (s₁.setTop (mkF m 8 #[.val (.int p1), .val (.int p2), .val (.int p3), .val (.int p4), .val (.int p5), .val (.int p6), .val (.int (3 : Int32)), .unset, .unset, .unset, .unset, .unset, .unset, .unset, .unset, .unset, .unset, .unset, .unset, .unset, .unset, .unset, .unset, .unset, .unset] [(.int (((p1).toUInt32 >>> ((2 : Int32) &&& 31).toUInt32).toInt32))])) _
    refine Own.go (fun t k => XS.sipush X0.here hx rfl (hb hby at_8) k) ?_
    show Own.Fin p e below (s₁.setTop (mkF m 11 #[.val (.int p1), .val (.int p2), .val (.int p3), .val (.int p4), .val (.int p5), .val (.int p6), .val (.int (3 : Int32)), .unset, .unset, .unset, .unset, .unset, .unset, .unset, .unset, .unset, .unset, .unset, .unset, .unset, .unset, .unset, .unset, .unset, .unset] [(.int (1023 : Int32)), (.int (((p1).toUInt32 >>> ((2 : Int32) &&& 31).toUInt32).toInt32))])) _
    refine Own.go (fun t k => XS.iand X0.here hx rfl (hb hby at_11) rfl k) ?_
    show Own.Fin p e below (s₁.setTop (mkF m 12 #[.val (.int p1), .val (.int p2), .val (.int p3), .val (.int p4), .val (.int p5), .val (.int p6), .val (.int (3 : Int32)), .unset, .unset, .unset, .unset, .unset, .unset, .unset, .unset, .unset, .unset, .unset, .unset, .unset, .unset, .unset, .unset, .unset, .unset] [(.int ((((p1).toUInt32 >>> ((2 : Int32) &&& 31).toUInt32).toInt32) &&& (1023 : Int32)))])) _
    refine Own.go (fun t k => XS.i2l X0.here hx rfl (hb hby at_12) rfl k) ?_
    show Own.Fin p e below (s₁.setTop (mkF m 13 #[.val (.int p1), .val (.int p2), .val (.int p3), .val (.int p4), .val (.int p5), .val (.int p6), .val (.int (3 : Int32)), .unset, .unset, .unset, .unset, .unset, .unset, .unset, .unset, .unset, .unset, .unset, .unset, .unset, .unset, .unset, .unset, .unset, .unset] [(.long ((((((p1).toUInt32 >>> ((2 : Int32) &&& 31).toUInt32).toInt32) &&& (1023 : Int32))).toInt64))])) _
    have hk1 : 0 ≤ (((((((p1).toUInt32 >>> ((2 : Int32) &&& 31).toUInt32).toInt32) &&& (1023 : Int32))).toInt64)).toInt ∧ (((((((p1).toUInt32 >>> ((2 : Int32) &&& 31).toUInt32).toInt32) &&& (1023 : Int32))).toInt64)).toInt ≤ 1023 := own_kb _
    generalize hk1_ : ((((((p1).toUInt32 >>> ((2 : Int32) &&& 31).toUInt32).toInt32) &&& (1023 : Int32))).toInt64) = k1 at hk1 ⊢
    refine Own.go (fun t k => XS.lstore X0.here hx rfl (hb hby at_13) rfl (l' := #[.val (.int p1), .val (.int p2), .val (.int p3), .val (.int p4), .val (.int p5), .val (.int p6), .val (.int (3 : Int32)), .val (.long k1), .second, .unset, .unset, .unset, .unset, .unset, .unset, .unset, .unset, .unset, .unset, .unset, .unset, .unset, .unset, .unset, .unset]) rfl k) ?_
    show Own.Fin p e below (s₁.setTop (mkF m 15 #[.val (.int p1), .val (.int p2), .val (.int p3), .val (.int p4), .val (.int p5), .val (.int p6), .val (.int (3 : Int32)), .val (.long k1), .second, .unset, .unset, .unset, .unset, .unset, .unset, .unset, .unset, .unset, .unset, .unset, .unset, .unset, .unset, .unset, .unset] [])) _
    refine Own.go (fun t k => XS.iloadN X0.here hx rfl (hb hby at_15) rfl k) ?_
    show Own.Fin p e below (s₁.setTop (mkF m 16 #[.val (.int p1), .val (.int p2), .val (.int p3), .val (.int p4), .val (.int p5), .val (.int p6), .val (.int (3 : Int32)), .val (.long k1), .second, .unset, .unset, .unset, .unset, .unset, .unset, .unset, .unset, .unset, .unset, .unset, .unset, .unset, .unset, .unset, .unset] [(.int p2)])) _
    refine Own.go (fun t k => XS.sipush X0.here hx rfl (hb hby at_16) k) ?_
    show Own.Fin p e below (s₁.setTop (mkF m 19 #[.val (.int p1), .val (.int p2), .val (.int p3), .val (.int p4), .val (.int p5), .val (.int p6), .val (.int (3 : Int32)), .val (.long k1), .second, .unset, .unset, .unset, .unset, .unset, .unset, .unset, .unset, .unset, .unset, .unset, .unset, .unset, .unset, .unset, .unset] [(.int (1023 : Int32)), (.int p2)])) _
    refine Own.go (fun t k => XS.iand X0.here hx rfl (hb hby at_19) rfl k) ?_
    show Own.Fin p e below (s₁.setTop (mkF m 20 #[.val (.int p1), .val (.int p2), .val (.int p3), .val (.int p4), .val (.int p5), .val (.int p6), .val (.int (3 : Int32)), .val (.long k1), .second, .unset, .unset, .unset, .unset, .unset, .unset, .unset, .unset, .unset, .unset, .unset, .unset, .unset, .unset, .unset, .unset] [(.int (p2 &&& (1023 : Int32)))])) _
    refine Own.go (fun t k => XS.i2l X0.here hx rfl (hb hby at_20) rfl k) ?_
    show Own.Fin p e below (s₁.setTop (mkF m 21 #[.val (.int p1), .val (.int p2), .val (.int p3), .val (.int p4), .val (.int p5), .val (.int p6), .val (.int (3 : Int32)), .val (.long k1), .second, .unset, .unset, .unset, .unset, .unset, .unset, .unset, .unset, .unset, .unset, .unset, .unset, .unset, .unset, .unset, .unset] [(.long (((p2 &&& (1023 : Int32))).toInt64))])) _
    have hk2 : 0 ≤ ((((p2 &&& (1023 : Int32))).toInt64)).toInt ∧ ((((p2 &&& (1023 : Int32))).toInt64)).toInt ≤ 1023 := own_kb _
    generalize hk2_ : (((p2 &&& (1023 : Int32))).toInt64) = k2 at hk2 ⊢
    refine Own.go (fun t k => XS.lstore X0.here hx rfl (hb hby at_21) rfl (l' := #[.val (.int p1), .val (.int p2), .val (.int p3), .val (.int p4), .val (.int p5), .val (.int p6), .val (.int (3 : Int32)), .val (.long k1), .second, .val (.long k2), .second, .unset, .unset, .unset, .unset, .unset, .unset, .unset, .unset, .unset, .unset, .unset, .unset, .unset, .unset]) rfl k) ?_
    show Own.Fin p e below (s₁.setTop (mkF m 23 #[.val (.int p1), .val (.int p2), .val (.int p3), .val (.int p4), .val (.int p5), .val (.int p6), .val (.int (3 : Int32)), .val (.long k1), .second, .val (.long k2), .second, .unset, .unset, .unset, .unset, .unset, .unset, .unset, .unset, .unset, .unset, .unset, .unset, .unset, .unset] [])) _
    refine Own.go (fun t k => XS.iloadN X0.here hx rfl (hb hby at_23) rfl k) ?_
    show Own.Fin p e below (s₁.setTop (mkF m 24 #[.val (.int p1), .val (.int p2), .val (.int p3), .val (.int p4), .val (.int p5), .val (.int p6), .val (.int (3 : Int32)), .val (.long k1), .second, .val (.long k2), .second, .unset, .unset, .unset, .unset, .unset, .unset, .unset, .unset, .unset, .unset, .unset, .unset, .unset, .unset] [(.int p3)])) _
    refine Own.go (fun t k => XS.sipush X0.here hx rfl (hb hby at_24) k) ?_
    show Own.Fin p e below (s₁.setTop (mkF m 27 #[.val (.int p1), .val (.int p2), .val (.int p3), .val (.int p4), .val (.int p5), .val (.int p6), .val (.int (3 : Int32)), .val (.long k1), .second, .val (.long k2), .second, .unset, .unset, .unset, .unset, .unset, .unset, .unset, .unset, .unset, .unset, .unset, .unset, .unset, .unset] [(.int (1023 : Int32)), (.int p3)])) _
    refine Own.go (fun t k => XS.iand X0.here hx rfl (hb hby at_27) rfl k) ?_
    show Own.Fin p e below (s₁.setTop (mkF m 28 #[.val (.int p1), .val (.int p2), .val (.int p3), .val (.int p4), .val (.int p5), .val (.int p6), .val (.int (3 : Int32)), .val (.long k1), .second, .val (.long k2), .second, .unset, .unset, .unset, .unset, .unset, .unset, .unset, .unset, .unset, .unset, .unset, .unset, .unset, .unset] [(.int (p3 &&& (1023 : Int32)))])) _
    refine Own.go (fun t k => XS.i2l X0.here hx rfl (hb hby at_28) rfl k) ?_
    show Own.Fin p e below (s₁.setTop (mkF m 29 #[.val (.int p1), .val (.int p2), .val (.int p3), .val (.int p4), .val (.int p5), .val (.int p6), .val (.int (3 : Int32)), .val (.long k1), .second, .val (.long k2), .second, .unset, .unset, .unset, .unset, .unset, .unset, .unset, .unset, .unset, .unset, .unset, .unset, .unset, .unset] [(.long (((p3 &&& (1023 : Int32))).toInt64))])) _
    have hk3 : 0 ≤ ((((p3 &&& (1023 : Int32))).toInt64)).toInt ∧ ((((p3 &&& (1023 : Int32))).toInt64)).toInt ≤ 1023 := own_kb _
    generalize hk3_ : (((p3 &&& (1023 : Int32))).toInt64) = k3 at hk3 ⊢
    refine Own.go (fun t k => XS.lstore X0.here hx rfl (hb hby at_29) rfl (l' := #[.val (.int p1), .val (.int p2), .val (.int p3), .val (.int p4), .val (.int p5), .val (.int p6), .val (.int (3 : Int32)), .val (.long k1), .second, .val (.long k2), .second, .val (.long k3), .second, .unset, .unset, .unset, .unset, .unset, .unset, .unset, .unset, .unset, .unset, .unset, .unset]) rfl k) ?_
    show Own.Fin p e below (s₁.setTop (mkF m 31 #[.val (.int p1), .val (.int p2), .val (.int p3), .val (.int p4), .val (.int p5), .val (.int p6), .val (.int (3 : Int32)), .val (.long k1), .second, .val (.long k2), .second, .val (.long k3), .second, .unset, .unset, .unset, .unset, .unset, .unset, .unset, .unset, .unset, .unset, .unset, .unset] [])) _
    refine Own.go (fun t k => XS.iconst X0.here hx rfl (hb hby at_31) k) ?_
    show Own.Fin p e below (s₁.setTop (mkF m 32 #[.val (.int p1), .val (.int p2), .val (.int p3), .val (.int p4), .val (.int p5), .val (.int p6), .val (.int (3 : Int32)), .val (.long k1), .second, .val (.long k2), .second, .val (.long k3), .second, .unset, .unset, .unset, .unset, .unset, .unset, .unset, .unset, .unset, .unset, .unset, .unset] [(.int (1 : Int32))])) _
    refine Own.go (fun t k => XS.iloadN X0.here hx rfl (hb hby at_32) rfl k) ?_
    show Own.Fin p e below (s₁.setTop (mkF m 33 #[.val (.int p1), .val (.int p2), .val (.int p3), .val (.int p4), .val (.int p5), .val (.int p6), .val (.int (3 : Int32)), .val (.long k1), .second, .val (.long k2), .second, .val (.long k3), .second, .unset, .unset, .unset, .unset, .unset, .unset, .unset, .unset, .unset, .unset, .unset, .unset] [(.int p4), (.int (1 : Int32))])) _
    refine Own.go (fun t k => X0.ldcInt hx hown (mvT hZ (hw _ (List.mem_of_getElem? (i := 0) rfl))) (g := (mkF m 33 #[.val (.int p1), .val (.int p2), .val (.int p3), .val (.int p4), .val (.int p5), .val (.int p6), .val (.int (3 : Int32)), .val (.long k1), .second, .val (.long k2), .second, .val (.long k3), .second, .unset, .unset, .unset, .unset, .unset, .unset, .unset, .unset, .unset, .unset, .unset, .unset] [(.int p4), (.int (1 : Int32))])) rfl (hb hby at_33) _ k) ?_
    show Own.Fin p e below (s₁.setTop (mkF m 35 #[.val (.int p1), .val (.int p2), .val (.int p3), .val (.int p4), .val (.int p5), .val (.int p6), .val (.int (3 : Int32)), .val (.long k1), .second, .val (.long k2), .second, .val (.long k3), .second, .unset, .unset, .unset, .unset, .unset, .unset, .unset, .unset, .unset, .unset, .unset, .unset] [(.int (1048575 : Int32)), (.int p4), (.int (1 : Int32))])) _
    refine Own.go (fun t k => XS.iand X0.here hx rfl (hb hby at_35) rfl k) ?_
    show Own.Fin p e below (s₁.setTop (mkF m 36 #[.val (.int p1), .val (.int p2), .val (.int p3), .val (.int p4), .val (.int p5), .val (.int p6), .val (.int (3 : Int32)), .val (.long k1), .second, .val (.long k2), .second, .val (.long k3), .second, .unset, .unset, .unset, .unset, .unset, .unset, .unset, .unset, .unset, .unset, .unset, .unset] [(.int (p4 &&& (1048575 : Int32))), (.int (1 : Int32))])) _
    refine Own.go (fun t k => XS.iadd X0.here hx rfl (hb hby at_36) rfl k) ?_
    show Own.Fin p e below (s₁.setTop (mkF m 37 #[.val (.int p1), .val (.int p2), .val (.int p3), .val (.int p4), .val (.int p5), .val (.int p6), .val (.int (3 : Int32)), .val (.long k1), .second, .val (.long k2), .second, .val (.long k3), .second, .unset, .unset, .unset, .unset, .unset, .unset, .unset, .unset, .unset, .unset, .unset, .unset] [(.int ((1 : Int32) + (p4 &&& (1048575 : Int32))))])) _
    have hd1 : 1 ≤ (((1 : Int32) + (p4 &&& (1048575 : Int32)))).toInt ∧ (((1 : Int32) + (p4 &&& (1048575 : Int32)))).toInt ≤ 1048576 := own_db _
    generalize hd1_ : ((1 : Int32) + (p4 &&& (1048575 : Int32))) = d1 at hd1 ⊢
    refine Own.go (fun t k => XS.istore X0.here hx rfl (hb hby at_37) rfl (l' := #[.val (.int p1), .val (.int p2), .val (.int p3), .val (.int p4), .val (.int p5), .val (.int p6), .val (.int (3 : Int32)), .val (.long k1), .second, .val (.long k2), .second, .val (.long k3), .second, .val (.int d1), .unset, .unset, .unset, .unset, .unset, .unset, .unset, .unset, .unset, .unset, .unset]) rfl k) ?_
    show Own.Fin p e below (s₁.setTop (mkF m 39 #[.val (.int p1), .val (.int p2), .val (.int p3), .val (.int p4), .val (.int p5), .val (.int p6), .val (.int (3 : Int32)), .val (.long k1), .second, .val (.long k2), .second, .val (.long k3), .second, .val (.int d1), .unset, .unset, .unset, .unset, .unset, .unset, .unset, .unset, .unset, .unset, .unset] [])) _
    refine Own.go (fun t k => XS.iconst X0.here hx rfl (hb hby at_39) k) ?_
    show Own.Fin p e below (s₁.setTop (mkF m 40 #[.val (.int p1), .val (.int p2), .val (.int p3), .val (.int p4), .val (.int p5), .val (.int p6), .val (.int (3 : Int32)), .val (.long k1), .second, .val (.long k2), .second, .val (.long k3), .second, .val (.int d1), .unset, .unset, .unset, .unset, .unset, .unset, .unset, .unset, .unset, .unset, .unset] [(.int (1 : Int32))])) _
    refine Own.go (fun t k => XS.iload X0.here hx rfl (hb hby at_40) rfl k) ?_
    show Own.Fin p e below (s₁.setTop (mkF m 42 #[.val (.int p1), .val (.int p2), .val (.int p3), .val (.int p4), .val (.int p5), .val (.int p6), .val (.int (3 : Int32)), .val (.long k1), .second, .val (.long k2), .second, .val (.long k3), .second, .val (.int d1), .unset, .unset, .unset, .unset, .unset, .unset, .unset, .unset, .unset, .unset, .unset] [(.int p5), (.int (1 : Int32))])) _
    refine Own.go (fun t k => X0.ldcInt hx hown (mvT hZ (hw _ (List.mem_of_getElem? (i := 0) rfl))) (g := (mkF m 42 #[.val (.int p1), .val (.int p2), .val (.int p3), .val (.int p4), .val (.int p5), .val (.int p6), .val (.int (3 : Int32)), .val (.long k1), .second, .val (.long k2), .second, .val (.long k3), .second, .val (.int d1), .unset, .unset, .unset, .unset, .unset, .unset, .unset, .unset, .unset, .unset, .unset] [(.int p5), (.int (1 : Int32))])) rfl (hb hby at_42) _ k) ?_
    show Own.Fin p e below (s₁.setTop (mkF m 44 #[.val (.int p1), .val (.int p2), .val (.int p3), .val (.int p4), .val (.int p5), .val (.int p6), .val (.int (3 : Int32)), .val (.long k1), .second, .val (.long k2), .second, .val (.long k3), .second, .val (.int d1), .unset, .unset, .unset, .unset, .unset, .unset, .unset, .unset, .unset, .unset, .unset] [(.int (1048575 : Int32)), (.int p5), (.int (1 : Int32))])) _
    refine Own.go (fun t k => XS.iand X0.here hx rfl (hb hby at_44) rfl k) ?_
    show Own.Fin p e below (s₁.setTop (mkF m 45 #[.val (.int p1), .val (.int p2), .val (.int p3), .val (.int p4), .val (.int p5), .val (.int p6), .val (.int (3 : Int32)), .val (.long k1), .second, .val (.long k2), .second, .val (.long k3), .second, .val (.int d1), .unset, .unset, .unset, .unset, .unset, .unset, .unset, .unset, .unset, .unset, .unset] [(.int (p5 &&& (1048575 : Int32))), (.int (1 : Int32))])) _
    refine Own.go (fun t k => XS.iadd X0.here hx rfl (hb hby at_45) rfl k) ?_
    show Own.Fin p e below (s₁.setTop (mkF m 46 #[.val (.int p1), .val (.int p2), .val (.int p3), .val (.int p4), .val (.int p5), .val (.int p6), .val (.int (3 : Int32)), .val (.long k1), .second, .val (.long k2), .second, .val (.long k3), .second, .val (.int d1), .unset, .unset, .unset, .unset, .unset, .unset, .unset, .unset, .unset, .unset, .unset] [(.int ((1 : Int32) + (p5 &&& (1048575 : Int32))))])) _
    have hd2 : 1 ≤ (((1 : Int32) + (p5 &&& (1048575 : Int32)))).toInt ∧ (((1 : Int32) + (p5 &&& (1048575 : Int32)))).toInt ≤ 1048576 := own_db _
    generalize hd2_ : ((1 : Int32) + (p5 &&& (1048575 : Int32))) = d2 at hd2 ⊢
    refine Own.go (fun t k => XS.istore X0.here hx rfl (hb hby at_46) rfl (l' := #[.val (.int p1), .val (.int p2), .val (.int p3), .val (.int p4), .val (.int p5), .val (.int p6), .val (.int (3 : Int32)), .val (.long k1), .second, .val (.long k2), .second, .val (.long k3), .second, .val (.int d1), .val (.int d2), .unset, .unset, .unset, .unset, .unset, .unset, .unset, .unset, .unset, .unset]) rfl k) ?_
    show Own.Fin p e below (s₁.setTop (mkF m 48 #[.val (.int p1), .val (.int p2), .val (.int p3), .val (.int p4), .val (.int p5), .val (.int p6), .val (.int (3 : Int32)), .val (.long k1), .second, .val (.long k2), .second, .val (.long k3), .second, .val (.int d1), .val (.int d2), .unset, .unset, .unset, .unset, .unset, .unset, .unset, .unset, .unset, .unset] [])) _
    refine Own.go (fun t k => XS.iconst X0.here hx rfl (hb hby at_48) k) ?_
    show Own.Fin p e below (s₁.setTop (mkF m 49 #[.val (.int p1), .val (.int p2), .val (.int p3), .val (.int p4), .val (.int p5), .val (.int p6), .val (.int (3 : Int32)), .val (.long k1), .second, .val (.long k2), .second, .val (.long k3), .second, .val (.int d1), .val (.int d2), .unset, .unset, .unset, .unset, .unset, .unset, .unset, .unset, .unset, .unset] [(.int (1 : Int32))])) _
    refine Own.go (fun t k => XS.iload X0.here hx rfl (hb hby at_49) rfl k) ?_
    show Own.Fin p e below (s₁.setTop (mkF m 51 #[.val (.int p1), .val (.int p2), .val (.int p3), .val (.int p4), .val (.int p5), .val (.int p6), .val (.int (3 : Int32)), .val (.long k1), .second, .val (.long k2), .second, .val (.long k3), .second, .val (.int d1), .val (.int d2), .unset, .unset, .unset, .unset, .unset, .unset, .unset, .unset, .unset, .unset] [(.int p6), (.int (1 : Int32))])) _
    refine Own.go (fun t k => X0.ldcInt hx hown (mvT hZ (hw _ (List.mem_of_getElem? (i := 0) rfl))) (g := (mkF m 51 #[.val (.int p1), .val (.int p2), .val (.int p3), .val (.int p4), .val (.int p5), .val (.int p6), .val (.int (3 : Int32)), .val (.long k1), .second, .val (.long k2), .second, .val (.long k3), .second, .val (.int d1), .val (.int d2), .unset, .unset, .unset, .unset, .unset, .unset, .unset, .unset, .unset, .unset] [(.int p6), (.int (1 : Int32))])) rfl (hb hby at_51) _ k) ?_
    show Own.Fin p e below (s₁.setTop (mkF m 53 #[.val (.int p1), .val (.int p2), .val (.int p3), .val (.int p4), .val (.int p5), .val (.int p6), .val (.int (3 : Int32)), .val (.long k1), .second, .val (.long k2), .second, .val (.long k3), .second, .val (.int d1), .val (.int d2), .unset, .unset, .unset, .unset, .unset, .unset, .unset, .unset, .unset, .unset] [(.int (1048575 : Int32)), (.int p6), (.int (1 : Int32))])) _
    refine Own.go (fun t k => XS.iand X0.here hx rfl (hb hby at_53) rfl k) ?_
    show Own.Fin p e below (s₁.setTop (mkF m 54 #[.val (.int p1), .val (.int p2), .val (.int p3), .val (.int p4), .val (.int p5), .val (.int p6), .val (.int (3 : Int32)), .val (.long k1), .second, .val (.long k2), .second, .val (.long k3), .second, .val (.int d1), .val (.int d2), .unset, .unset, .unset, .unset, .unset, .unset, .unset, .unset, .unset, .unset] [(.int (p6 &&& (1048575 : Int32))), (.int (1 : Int32))])) _
    refine Own.go (fun t k => XS.iadd X0.here hx rfl (hb hby at_54) rfl k) ?_
    show Own.Fin p e below (s₁.setTop (mkF m 55 #[.val (.int p1), .val (.int p2), .val (.int p3), .val (.int p4), .val (.int p5), .val (.int p6), .val (.int (3 : Int32)), .val (.long k1), .second, .val (.long k2), .second, .val (.long k3), .second, .val (.int d1), .val (.int d2), .unset, .unset, .unset, .unset, .unset, .unset, .unset, .unset, .unset, .unset] [(.int ((1 : Int32) + (p6 &&& (1048575 : Int32))))])) _
    have hd3 : 1 ≤ (((1 : Int32) + (p6 &&& (1048575 : Int32)))).toInt ∧ (((1 : Int32) + (p6 &&& (1048575 : Int32)))).toInt ≤ 1048576 := own_db _
    generalize hd3_ : ((1 : Int32) + (p6 &&& (1048575 : Int32))) = d3 at hd3 ⊢
    refine Own.go (fun t k => XS.istore X0.here hx rfl (hb hby at_55) rfl (l' := #[.val (.int p1), .val (.int p2), .val (.int p3), .val (.int p4), .val (.int p5), .val (.int p6), .val (.int (3 : Int32)), .val (.long k1), .second, .val (.long k2), .second, .val (.long k3), .second, .val (.int d1), .val (.int d2), .val (.int d3), .unset, .unset, .unset, .unset, .unset, .unset, .unset, .unset, .unset]) rfl k) ?_
    show Own.Fin p e below (s₁.setTop (mkF m 57 #[.val (.int p1), .val (.int p2), .val (.int p3), .val (.int p4), .val (.int p5), .val (.int p6), .val (.int (3 : Int32)), .val (.long k1), .second, .val (.long k2), .second, .val (.long k3), .second, .val (.int d1), .val (.int d2), .val (.int d3), .unset, .unset, .unset, .unset, .unset, .unset, .unset, .unset, .unset] [])) _
    obtain ⟨T54, h54, X54, e54, E54, A54, D54, -, st54⟩ := newO X0 hx hZ hown (hw _ (List.mem_of_getElem? (i := 1) rfl)) (hw _ (List.mem_of_getElem? (i := 2) rfl)) (hw _ (List.mem_of_getElem? (i := 3) rfl)) e0 (g := (mkF m 57 #[.val (.int p1), .val (.int p2), .val (.int p3), .val (.int p4), .val (.int p5), .val (.int p6), .val (.int (3 : Int32)), .val (.long k1), .second, .val (.long k2), .second, .val (.long k3), .second, .val (.int d1), .val (.int d2), .val (.int d3), .unset, .unset, .unset, .unset, .unset, .unset, .unset, .unset, .unset] [])) rfl (hb hby at_57) (by decide) (by decide)
    obtain ⟨b54, gb54⟩ : ∃ z, z = h0.size := ⟨_, rfl⟩
    rw [← gb54] at A54 D54 st54
    refine Own.go st54 ?_
    have ge54 : n0 ≤ b54 := by rw [gb54]; exact Z0
    have Z54 : n0 ≤ h54.size := Nat.le_trans Z0 E54.1
    have fl55 : Fld Z h54 b54 "com/example/arachne/arachne/force/StressSum" "pairs" "J" (.long (0 : Int64)) := D54 (Or.inl (hw _ (List.mem_of_getElem? (i := 16) rfl))) (ty := .long) (by decide)
    have fl56 : Fld Z h54 b54 "com/example/arachne/arachne/force/StressSum" "ratios" "D" (.double 0) := D54 (Or.inl (hw _ (List.mem_of_getElem? (i := 23) rfl))) (ty := .double) (by decide)
    have fl57 : Fld Z h54 b54 "com/example/arachne/arachne/force/StressSum" "squares" "D" (.double 0) := D54 (Or.inl (hw _ (List.mem_of_getElem? (i := 25) rfl))) (ty := .double) (by decide)
    show Own.Fin p e below (T54.setTop (mkF m 60 #[.val (.int p1), .val (.int p2), .val (.int p3), .val (.int p4), .val (.int p5), .val (.int p6), .val (.int (3 : Int32)), .val (.long k1), .second, .val (.long k2), .second, .val (.long k3), .second, .val (.int d1), .val (.int d2), .val (.int d3), .unset, .unset, .unset, .unset, .unset, .unset, .unset, .unset, .unset] [(.ref b54)])) _
    have zd58 := Fld.zeroD fl56
    have zd59 := Fld.zeroD fl57
    refine Own.go (fun t k => XS.dup X54.here hx rfl (hb hby at_60) rfl rfl k) ?_
    show Own.Fin p e below (T54.setTop (mkF m 61 #[.val (.int p1), .val (.int p2), .val (.int p3), .val (.int p4), .val (.int p5), .val (.int p6), .val (.int (3 : Int32)), .val (.long k1), .second, .val (.long k2), .second, .val (.long k3), .second, .val (.int d1), .val (.int d2), .val (.int d3), .unset, .unset, .unset, .unset, .unset, .unset, .unset, .unset, .unset] [(.ref b54), (.ref b54)])) _
    refine Own.cI X54 hx hZ rfl hown (hw _ (List.mem_of_getElem? (i := 4) rfl)) (hw _ (List.mem_of_getElem? (i := 5) rfl)) (hw _ (List.mem_of_getElem? (i := 3) rfl)) (hw _ (List.mem_of_getElem? (i := 6) rfl)) (by decide) (rm1 l Z a0 hw [] b54 h54 n0 Z54) (by decide) (W := 1) (by decide) (argsL := []) (rest := [(.ref b54)]) (by rw [hml]; rfl) (lenOf pd_1 rfl) rfl (Nat.le_of_eq rfl) (hb hby at_61) e54 (by decide) (by decide) ?_
    intro T60 L60 v60 X60 hQ60
    obtain ⟨rfl, N60q, e60⟩ := hQ60
    have N60 := Fr.app N0 N60q
    show Own.Fin p e below (T60.setTop (mkF m 64 #[.val (.int p1), .val (.int p2), .val (.int p3), .val (.int p4), .val (.int p5), .val (.int p6), .val (.int (3 : Int32)), .val (.long k1), .second, .val (.long k2), .second, .val (.long k3), .second, .val (.int d1), .val (.int d2), .val (.int d3), .unset, .unset, .unset, .unset, .unset, .unset, .unset, .unset, .unset] [(.ref b54)])) _
    refine Own.go (fun t k => XS.astore X60.here hx rfl (hb hby at_64) rfl rfl (l' := #[.val (.int p1), .val (.int p2), .val (.int p3), .val (.int p4), .val (.int p5), .val (.int p6), .val (.int (3 : Int32)), .val (.long k1), .second, .val (.long k2), .second, .val (.long k3), .second, .val (.int d1), .val (.int d2), .val (.int d3), .val (.ref b54), .unset, .unset, .unset, .unset, .unset, .unset, .unset, .unset]) rfl k) ?_
    show Own.Fin p e below (T60.setTop (mkF m 66 #[.val (.int p1), .val (.int p2), .val (.int p3), .val (.int p4), .val (.int p5), .val (.int p6), .val (.int (3 : Int32)), .val (.long k1), .second, .val (.long k2), .second, .val (.long k3), .second, .val (.int d1), .val (.int d2), .val (.int d3), .val (.ref b54), .unset, .unset, .unset, .unset, .unset, .unset, .unset, .unset] [])) _
    refine Own.go (fun t k => XS.iload X60.here hx rfl (hb hby at_66) rfl k) ?_
    show Own.Fin p e below (T60.setTop (mkF m 68 #[.val (.int p1), .val (.int p2), .val (.int p3), .val (.int p4), .val (.int p5), .val (.int p6), .val (.int (3 : Int32)), .val (.long k1), .second, .val (.long k2), .second, .val (.long k3), .second, .val (.int d1), .val (.int d2), .val (.int d3), .val (.ref b54), .unset, .unset, .unset, .unset, .unset, .unset, .unset, .unset] [(.int (3 : Int32))])) _
    refine Own.go (fun t k => XS.iconst X60.here hx rfl (hb hby at_68) k) ?_
    show Own.Fin p e below (T60.setTop (mkF m 69 #[.val (.int p1), .val (.int p2), .val (.int p3), .val (.int p4), .val (.int p5), .val (.int p6), .val (.int (3 : Int32)), .val (.long k1), .second, .val (.long k2), .second, .val (.long k3), .second, .val (.int d1), .val (.int d2), .val (.int d3), .val (.ref b54), .unset, .unset, .unset, .unset, .unset, .unset, .unset, .unset] [(.int (1 : Int32)), (.int (3 : Int32))])) _
    have hc69_60 : ¬ ((3 : Int32) < (1 : Int32)) := by decide
    refine Own.go (fun t k => XS.icmpNo X60.here hx rfl (hb hby at_69) rfl (flt hc69_60).1 k) ?_
    show Own.Fin p e below (T60.setTop (mkF m 72 #[.val (.int p1), .val (.int p2), .val (.int p3), .val (.int p4), .val (.int p5), .val (.int p6), .val (.int (3 : Int32)), .val (.long k1), .second, .val (.long k2), .second, .val (.long k3), .second, .val (.int d1), .val (.int d2), .val (.int d3), .val (.ref b54), .unset, .unset, .unset, .unset, .unset, .unset, .unset, .unset] [])) _
    refine Own.go (fun t k => XS.aload X60.here hx rfl (hb hby at_72) rfl rfl k) ?_
    show Own.Fin p e below (T60.setTop (mkF m 74 #[.val (.int p1), .val (.int p2), .val (.int p3), .val (.int p4), .val (.int p5), .val (.int p6), .val (.int (3 : Int32)), .val (.long k1), .second, .val (.long k2), .second, .val (.long k3), .second, .val (.int d1), .val (.int d2), .val (.int d3), .val (.ref b54), .unset, .unset, .unset, .unset, .unset, .unset, .unset, .unset] [(.ref b54)])) _
    refine Own.go (fun t k => XS.lload X60.here hx rfl (hb hby at_74) rfl k) ?_
    show Own.Fin p e below (T60.setTop (mkF m 76 #[.val (.int p1), .val (.int p2), .val (.int p3), .val (.int p4), .val (.int p5), .val (.int p6), .val (.int (3 : Int32)), .val (.long k1), .second, .val (.long k2), .second, .val (.long k3), .second, .val (.int d1), .val (.int d2), .val (.int d3), .val (.ref b54), .unset, .unset, .unset, .unset, .unset, .unset, .unset, .unset] [(.long k1), (.ref b54)])) _
    refine Own.go (fun t k => XS.iload X60.here hx rfl (hb hby at_76) rfl k) ?_
    show Own.Fin p e below (T60.setTop (mkF m 78 #[.val (.int p1), .val (.int p2), .val (.int p3), .val (.int p4), .val (.int p5), .val (.int p6), .val (.int (3 : Int32)), .val (.long k1), .second, .val (.long k2), .second, .val (.long k3), .second, .val (.int d1), .val (.int d2), .val (.int d3), .val (.ref b54), .unset, .unset, .unset, .unset, .unset, .unset, .unset, .unset] [(.int d1), (.long k1), (.ref b54)])) _
    refine Own.go (fun t k => XS.i2l X60.here hx rfl (hb hby at_78) rfl k) ?_
    show Own.Fin p e below (T60.setTop (mkF m 79 #[.val (.int p1), .val (.int p2), .val (.int p3), .val (.int p4), .val (.int p5), .val (.int p6), .val (.int (3 : Int32)), .val (.long k1), .second, .val (.long k2), .second, .val (.long k3), .second, .val (.int d1), .val (.int d2), .val (.int d3), .val (.ref b54), .unset, .unset, .unset, .unset, .unset, .unset, .unset, .unset] [(.long ((d1).toInt64)), (.long k1), (.ref b54)])) _
    refine Own.go (fun t k => XS.lmul X60.here hx rfl (hb hby at_79) rfl k) ?_
    show Own.Fin p e below (T60.setTop (mkF m 80 #[.val (.int p1), .val (.int p2), .val (.int p3), .val (.int p4), .val (.int p5), .val (.int p6), .val (.int (3 : Int32)), .val (.long k1), .second, .val (.long k2), .second, .val (.long k3), .second, .val (.int d1), .val (.int d2), .val (.int d3), .val (.ref b54), .unset, .unset, .unset, .unset, .unset, .unset, .unset, .unset] [(.long (k1 * ((d1).toInt64))), (.ref b54)])) _
    refine Own.go (fun t k => XS.l2dS X60.here hx rfl (hb hby at_80) rfl rfl k) ?_
    show Own.Fin p e below (T60.setTop (mkF m 81 #[.val (.int p1), .val (.int p2), .val (.int p3), .val (.int p4), .val (.int p5), .val (.int p6), .val (.int (3 : Int32)), .val (.long k1), .second, .val (.long k2), .second, .val (.long k3), .second, .val (.int d1), .val (.int d2), .val (.int d3), .val (.ref b54), .unset, .unset, .unset, .unset, .unset, .unset, .unset, .unset] [(.double (FP.l2d (k1 * ((d1).toInt64)))), (.ref b54)])) _
    refine Own.go (fun t k => XS.iload X60.here hx rfl (hb hby at_81) rfl k) ?_
    show Own.Fin p e below (T60.setTop (mkF m 83 #[.val (.int p1), .val (.int p2), .val (.int p3), .val (.int p4), .val (.int p5), .val (.int p6), .val (.int (3 : Int32)), .val (.long k1), .second, .val (.long k2), .second, .val (.long k3), .second, .val (.int d1), .val (.int d2), .val (.int d3), .val (.ref b54), .unset, .unset, .unset, .unset, .unset, .unset, .unset, .unset] [(.int d1), (.double (FP.l2d (k1 * ((d1).toInt64)))), (.ref b54)])) _
    refine Own.cV X60 hx hZ hown (hw _ (List.mem_of_getElem? (i := 17) rfl)) (hw _ (List.mem_of_getElem? (i := 18) rfl)) (notFace_of_selects (args := #[]) (mvT hZ (hw _ (List.mem_of_getElem? (i := 20) rfl)))) (hw _ (List.mem_of_getElem? (i := 20) rfl)) (hw _ (List.mem_of_getElem? (i := 19) rfl)) (hw _ (List.mem_of_getElem? (i := 3) rfl)) (hw _ (List.mem_of_getElem? (i := 21) rfl)) (by decide) (rm4 l Z a0 hw [] b54 (FP.l2d (k1 * ((d1).toInt64))) d1 k1 (0 : Int64) (0 : Int64) (0 : Int64) h54 n0 Z54 A54 fl55 zd58 zd59 ge54 rfl hk1 hd1 ⟨by decide, by decide⟩ ⟨by decide, by decide⟩) (by decide) (W := 0) (by decide) (argsL := [(.double (FP.l2d (k1 * ((d1).toInt64)))), (.int d1)]) (rest := []) A54 (by rw [hml]; rfl) (lenOf pd_3 rfl) rfl (Nat.le_of_eq rfl) (hb hby at_83) e60 (by decide) (by decide) ?_
    intro T62 L62 v62 X62 hQ62
    obtain ⟨rfl, N62q, K62q, FP62, FR62, FS62⟩ := hQ62
    have N62 := Fr.app N60 N62q
    have f63 := A54.keep K62q
    have Z62 : n0 ≤ T62.heap.size := Nat.le_trans Z54 K62q.1
    rw [show (0 : Int64) + (1 : Int64) = (1 : Int64) by decide] at FP62
    rw [Int64.zero_add] at FR62 FS62
    have hmm1 := own_mulv hk1 hk1 (by decide)
    have hmb1 : 0 ≤ (k1 * k1).toInt ∧ (k1 * k1).toInt ≤ 1046529 := by rw [hmm1.1]; exact hmm1.2
    have hrv1 : k1.toInt = k1.toInt := rfl
    have hr1 := hk1
    have hqv1 : (k1 * k1).toInt = k1.toInt * k1.toInt := hmm1.1
    have hq1 := hmb1
    show Own.Fin p e below (T62.setTop (mkF m 86 #[.val (.int p1), .val (.int p2), .val (.int p3), .val (.int p4), .val (.int p5), .val (.int p6), .val (.int (3 : Int32)), .val (.long k1), .second, .val (.long k2), .second, .val (.long k3), .second, .val (.int d1), .val (.int d2), .val (.int d3), .val (.ref b54), .unset, .unset, .unset, .unset, .unset, .unset, .unset, .unset] [])) _
    refine Own.go (fun t k => XS.iload X62.here hx rfl (hb hby at_86) rfl k) ?_
    show Own.Fin p e below (T62.setTop (mkF m 88 #[.val (.int p1), .val (.int p2), .val (.int p3), .val (.int p4), .val (.int p5), .val (.int p6), .val (.int (3 : Int32)), .val (.long k1), .second, .val (.long k2), .second, .val (.long k3), .second, .val (.int d1), .val (.int d2), .val (.int d3), .val (.ref b54), .unset, .unset, .unset, .unset, .unset, .unset, .unset, .unset] [(.int (3 : Int32))])) _
    refine Own.go (fun t k => XS.iconst X62.here hx rfl (hb hby at_88) k) ?_
    show Own.Fin p e below (T62.setTop (mkF m 89 #[.val (.int p1), .val (.int p2), .val (.int p3), .val (.int p4), .val (.int p5), .val (.int p6), .val (.int (3 : Int32)), .val (.long k1), .second, .val (.long k2), .second, .val (.long k3), .second, .val (.int d1), .val (.int d2), .val (.int d3), .val (.ref b54), .unset, .unset, .unset, .unset, .unset, .unset, .unset, .unset] [(.int (2 : Int32)), (.int (3 : Int32))])) _
    have hc89_63 : ¬ ((3 : Int32) < (2 : Int32)) := by decide
    refine Own.go (fun t k => XS.icmpNo X62.here hx rfl (hb hby at_89) rfl (flt hc89_63).1 k) ?_
    show Own.Fin p e below (T62.setTop (mkF m 92 #[.val (.int p1), .val (.int p2), .val (.int p3), .val (.int p4), .val (.int p5), .val (.int p6), .val (.int (3 : Int32)), .val (.long k1), .second, .val (.long k2), .second, .val (.long k3), .second, .val (.int d1), .val (.int d2), .val (.int d3), .val (.ref b54), .unset, .unset, .unset, .unset, .unset, .unset, .unset, .unset] [])) _
    refine Own.go (fun t k => XS.aload X62.here hx rfl (hb hby at_92) rfl rfl k) ?_
    show Own.Fin p e below (T62.setTop (mkF m 94 #[.val (.int p1), .val (.int p2), .val (.int p3), .val (.int p4), .val (.int p5), .val (.int p6), .val (.int (3 : Int32)), .val (.long k1), .second, .val (.long k2), .second, .val (.long k3), .second, .val (.int d1), .val (.int d2), .val (.int d3), .val (.ref b54), .unset, .unset, .unset, .unset, .unset, .unset, .unset, .unset] [(.ref b54)])) _
    refine Own.go (fun t k => XS.lload X62.here hx rfl (hb hby at_94) rfl k) ?_
    show Own.Fin p e below (T62.setTop (mkF m 96 #[.val (.int p1), .val (.int p2), .val (.int p3), .val (.int p4), .val (.int p5), .val (.int p6), .val (.int (3 : Int32)), .val (.long k1), .second, .val (.long k2), .second, .val (.long k3), .second, .val (.int d1), .val (.int d2), .val (.int d3), .val (.ref b54), .unset, .unset, .unset, .unset, .unset, .unset, .unset, .unset] [(.long k2), (.ref b54)])) _
    refine Own.go (fun t k => XS.iload X62.here hx rfl (hb hby at_96) rfl k) ?_
    show Own.Fin p e below (T62.setTop (mkF m 98 #[.val (.int p1), .val (.int p2), .val (.int p3), .val (.int p4), .val (.int p5), .val (.int p6), .val (.int (3 : Int32)), .val (.long k1), .second, .val (.long k2), .second, .val (.long k3), .second, .val (.int d1), .val (.int d2), .val (.int d3), .val (.ref b54), .unset, .unset, .unset, .unset, .unset, .unset, .unset, .unset] [(.int d2), (.long k2), (.ref b54)])) _
    refine Own.go (fun t k => XS.i2l X62.here hx rfl (hb hby at_98) rfl k) ?_
    show Own.Fin p e below (T62.setTop (mkF m 99 #[.val (.int p1), .val (.int p2), .val (.int p3), .val (.int p4), .val (.int p5), .val (.int p6), .val (.int (3 : Int32)), .val (.long k1), .second, .val (.long k2), .second, .val (.long k3), .second, .val (.int d1), .val (.int d2), .val (.int d3), .val (.ref b54), .unset, .unset, .unset, .unset, .unset, .unset, .unset, .unset] [(.long ((d2).toInt64)), (.long k2), (.ref b54)])) _
    refine Own.go (fun t k => XS.lmul X62.here hx rfl (hb hby at_99) rfl k) ?_
    show Own.Fin p e below (T62.setTop (mkF m 100 #[.val (.int p1), .val (.int p2), .val (.int p3), .val (.int p4), .val (.int p5), .val (.int p6), .val (.int (3 : Int32)), .val (.long k1), .second, .val (.long k2), .second, .val (.long k3), .second, .val (.int d1), .val (.int d2), .val (.int d3), .val (.ref b54), .unset, .unset, .unset, .unset, .unset, .unset, .unset, .unset] [(.long (k2 * ((d2).toInt64))), (.ref b54)])) _
    refine Own.go (fun t k => XS.l2dS X62.here hx rfl (hb hby at_100) rfl rfl k) ?_
    show Own.Fin p e below (T62.setTop (mkF m 101 #[.val (.int p1), .val (.int p2), .val (.int p3), .val (.int p4), .val (.int p5), .val (.int p6), .val (.int (3 : Int32)), .val (.long k1), .second, .val (.long k2), .second, .val (.long k3), .second, .val (.int d1), .val (.int d2), .val (.int d3), .val (.ref b54), .unset, .unset, .unset, .unset, .unset, .unset, .unset, .unset] [(.double (FP.l2d (k2 * ((d2).toInt64)))), (.ref b54)])) _
    refine Own.go (fun t k => XS.iload X62.here hx rfl (hb hby at_101) rfl k) ?_
    show Own.Fin p e below (T62.setTop (mkF m 103 #[.val (.int p1), .val (.int p2), .val (.int p3), .val (.int p4), .val (.int p5), .val (.int p6), .val (.int (3 : Int32)), .val (.long k1), .second, .val (.long k2), .second, .val (.long k3), .second, .val (.int d1), .val (.int d2), .val (.int d3), .val (.ref b54), .unset, .unset, .unset, .unset, .unset, .unset, .unset, .unset] [(.int d2), (.double (FP.l2d (k2 * ((d2).toInt64)))), (.ref b54)])) _
    refine Own.cV X62 hx hZ hown (hw _ (List.mem_of_getElem? (i := 17) rfl)) (hw _ (List.mem_of_getElem? (i := 18) rfl)) (notFace_of_selects (args := #[]) (mvT hZ (hw _ (List.mem_of_getElem? (i := 20) rfl)))) (hw _ (List.mem_of_getElem? (i := 20) rfl)) (hw _ (List.mem_of_getElem? (i := 19) rfl)) (hw _ (List.mem_of_getElem? (i := 3) rfl)) (hw _ (List.mem_of_getElem? (i := 21) rfl)) (by decide) (rm4 l Z a0 hw [] b54 (FP.l2d (k2 * ((d2).toInt64))) d2 k2 (1 : Int64) k1 (k1 * k1) T62.heap n0 Z62 f63 FP62 FR62 FS62 ge54 rfl hk2 hd2 ⟨hr1.1, Int.le_trans hr1.2 (by decide)⟩ ⟨hq1.1, Int.le_trans hq1.2 (by decide)⟩) (by decide) (W := 0) (by decide) (argsL := [(.double (FP.l2d (k2 * ((d2).toInt64)))), (.int d2)]) (rest := []) f63 (by rw [hml]; rfl) (lenOf pd_3 rfl) rfl (Nat.le_of_eq rfl) (hb hby at_103) rfl (by decide) (by decide) ?_
    intro T65 L65 v65 X65 hQ65
    obtain ⟨rfl, N65q, K65q, FP65, FR65, FS65⟩ := hQ65
    have N65 := Fr.app N62 N65q
    have f66 := f63.keep K65q
    have Z65 : n0 ≤ T65.heap.size := Nat.le_trans Z62 K65q.1
    rw [show (1 : Int64) + (1 : Int64) = (2 : Int64) by decide] at FP65
    have hmm2 := own_mulv hk2 hk2 (by decide)
    have hmb2 : 0 ≤ (k2 * k2).toInt ∧ (k2 * k2).toInt ≤ 1046529 := by rw [hmm2.1]; exact hmm2.2
    have hra2 := own_addv hr1 hk2 (by decide)
    have hr2 := hra2.2
    have hrv2 : (k1 + k2).toInt = k1.toInt + k2.toInt := by rw [hra2.1, hrv1]
    have hqa2 := own_addv hq1 hmb2 (by decide)
    have hq2 := hqa2.2
    have hqv2 : ((k1 * k1) + (k2 * k2)).toInt = k1.toInt * k1.toInt + k2.toInt * k2.toInt := by rw [hqa2.1, hqv1, hmm2.1]
    show Own.Fin p e below (T65.setTop (mkF m 106 #[.val (.int p1), .val (.int p2), .val (.int p3), .val (.int p4), .val (.int p5), .val (.int p6), .val (.int (3 : Int32)), .val (.long k1), .second, .val (.long k2), .second, .val (.long k3), .second, .val (.int d1), .val (.int d2), .val (.int d3), .val (.ref b54), .unset, .unset, .unset, .unset, .unset, .unset, .unset, .unset] [])) _
    refine Own.go (fun t k => XS.iload X65.here hx rfl (hb hby at_106) rfl k) ?_
    show Own.Fin p e below (T65.setTop (mkF m 108 #[.val (.int p1), .val (.int p2), .val (.int p3), .val (.int p4), .val (.int p5), .val (.int p6), .val (.int (3 : Int32)), .val (.long k1), .second, .val (.long k2), .second, .val (.long k3), .second, .val (.int d1), .val (.int d2), .val (.int d3), .val (.ref b54), .unset, .unset, .unset, .unset, .unset, .unset, .unset, .unset] [(.int (3 : Int32))])) _
    refine Own.go (fun t k => XS.iconst X65.here hx rfl (hb hby at_108) k) ?_
    show Own.Fin p e below (T65.setTop (mkF m 109 #[.val (.int p1), .val (.int p2), .val (.int p3), .val (.int p4), .val (.int p5), .val (.int p6), .val (.int (3 : Int32)), .val (.long k1), .second, .val (.long k2), .second, .val (.long k3), .second, .val (.int d1), .val (.int d2), .val (.int d3), .val (.ref b54), .unset, .unset, .unset, .unset, .unset, .unset, .unset, .unset] [(.int (3 : Int32)), (.int (3 : Int32))])) _
    have hc109_66 : ¬ ((3 : Int32) < (3 : Int32)) := by decide
    refine Own.go (fun t k => XS.icmpNo X65.here hx rfl (hb hby at_109) rfl (flt hc109_66).1 k) ?_
    show Own.Fin p e below (T65.setTop (mkF m 112 #[.val (.int p1), .val (.int p2), .val (.int p3), .val (.int p4), .val (.int p5), .val (.int p6), .val (.int (3 : Int32)), .val (.long k1), .second, .val (.long k2), .second, .val (.long k3), .second, .val (.int d1), .val (.int d2), .val (.int d3), .val (.ref b54), .unset, .unset, .unset, .unset, .unset, .unset, .unset, .unset] [])) _
    refine Own.go (fun t k => XS.aload X65.here hx rfl (hb hby at_112) rfl rfl k) ?_
    show Own.Fin p e below (T65.setTop (mkF m 114 #[.val (.int p1), .val (.int p2), .val (.int p3), .val (.int p4), .val (.int p5), .val (.int p6), .val (.int (3 : Int32)), .val (.long k1), .second, .val (.long k2), .second, .val (.long k3), .second, .val (.int d1), .val (.int d2), .val (.int d3), .val (.ref b54), .unset, .unset, .unset, .unset, .unset, .unset, .unset, .unset] [(.ref b54)])) _
    refine Own.go (fun t k => XS.lload X65.here hx rfl (hb hby at_114) rfl k) ?_
    show Own.Fin p e below (T65.setTop (mkF m 116 #[.val (.int p1), .val (.int p2), .val (.int p3), .val (.int p4), .val (.int p5), .val (.int p6), .val (.int (3 : Int32)), .val (.long k1), .second, .val (.long k2), .second, .val (.long k3), .second, .val (.int d1), .val (.int d2), .val (.int d3), .val (.ref b54), .unset, .unset, .unset, .unset, .unset, .unset, .unset, .unset] [(.long k3), (.ref b54)])) _
    refine Own.go (fun t k => XS.iload X65.here hx rfl (hb hby at_116) rfl k) ?_
    show Own.Fin p e below (T65.setTop (mkF m 118 #[.val (.int p1), .val (.int p2), .val (.int p3), .val (.int p4), .val (.int p5), .val (.int p6), .val (.int (3 : Int32)), .val (.long k1), .second, .val (.long k2), .second, .val (.long k3), .second, .val (.int d1), .val (.int d2), .val (.int d3), .val (.ref b54), .unset, .unset, .unset, .unset, .unset, .unset, .unset, .unset] [(.int d3), (.long k3), (.ref b54)])) _
    refine Own.go (fun t k => XS.i2l X65.here hx rfl (hb hby at_118) rfl k) ?_
    show Own.Fin p e below (T65.setTop (mkF m 119 #[.val (.int p1), .val (.int p2), .val (.int p3), .val (.int p4), .val (.int p5), .val (.int p6), .val (.int (3 : Int32)), .val (.long k1), .second, .val (.long k2), .second, .val (.long k3), .second, .val (.int d1), .val (.int d2), .val (.int d3), .val (.ref b54), .unset, .unset, .unset, .unset, .unset, .unset, .unset, .unset] [(.long ((d3).toInt64)), (.long k3), (.ref b54)])) _
    refine Own.go (fun t k => XS.lmul X65.here hx rfl (hb hby at_119) rfl k) ?_
    show Own.Fin p e below (T65.setTop (mkF m 120 #[.val (.int p1), .val (.int p2), .val (.int p3), .val (.int p4), .val (.int p5), .val (.int p6), .val (.int (3 : Int32)), .val (.long k1), .second, .val (.long k2), .second, .val (.long k3), .second, .val (.int d1), .val (.int d2), .val (.int d3), .val (.ref b54), .unset, .unset, .unset, .unset, .unset, .unset, .unset, .unset] [(.long (k3 * ((d3).toInt64))), (.ref b54)])) _
    refine Own.go (fun t k => XS.l2dS X65.here hx rfl (hb hby at_120) rfl rfl k) ?_
    show Own.Fin p e below (T65.setTop (mkF m 121 #[.val (.int p1), .val (.int p2), .val (.int p3), .val (.int p4), .val (.int p5), .val (.int p6), .val (.int (3 : Int32)), .val (.long k1), .second, .val (.long k2), .second, .val (.long k3), .second, .val (.int d1), .val (.int d2), .val (.int d3), .val (.ref b54), .unset, .unset, .unset, .unset, .unset, .unset, .unset, .unset] [(.double (FP.l2d (k3 * ((d3).toInt64)))), (.ref b54)])) _
    refine Own.go (fun t k => XS.iload X65.here hx rfl (hb hby at_121) rfl k) ?_
    show Own.Fin p e below (T65.setTop (mkF m 123 #[.val (.int p1), .val (.int p2), .val (.int p3), .val (.int p4), .val (.int p5), .val (.int p6), .val (.int (3 : Int32)), .val (.long k1), .second, .val (.long k2), .second, .val (.long k3), .second, .val (.int d1), .val (.int d2), .val (.int d3), .val (.ref b54), .unset, .unset, .unset, .unset, .unset, .unset, .unset, .unset] [(.int d3), (.double (FP.l2d (k3 * ((d3).toInt64)))), (.ref b54)])) _
    refine Own.cV X65 hx hZ hown (hw _ (List.mem_of_getElem? (i := 17) rfl)) (hw _ (List.mem_of_getElem? (i := 18) rfl)) (notFace_of_selects (args := #[]) (mvT hZ (hw _ (List.mem_of_getElem? (i := 20) rfl)))) (hw _ (List.mem_of_getElem? (i := 20) rfl)) (hw _ (List.mem_of_getElem? (i := 19) rfl)) (hw _ (List.mem_of_getElem? (i := 3) rfl)) (hw _ (List.mem_of_getElem? (i := 21) rfl)) (by decide) (rm4 l Z a0 hw [] b54 (FP.l2d (k3 * ((d3).toInt64))) d3 k3 (2 : Int64) (k1 + k2) ((k1 * k1) + (k2 * k2)) T65.heap n0 Z65 f66 FP65 FR65 FS65 ge54 rfl hk3 hd3 ⟨hr2.1, Int.le_trans hr2.2 (by decide)⟩ ⟨hq2.1, Int.le_trans hq2.2 (by decide)⟩) (by decide) (W := 0) (by decide) (argsL := [(.double (FP.l2d (k3 * ((d3).toInt64)))), (.int d3)]) (rest := []) f66 (by rw [hml]; rfl) (lenOf pd_3 rfl) rfl (Nat.le_of_eq rfl) (hb hby at_123) rfl (by decide) (by decide) ?_
    intro T68 L68 v68 X68 hQ68
    obtain ⟨rfl, N68q, K68q, FP68, FR68, FS68⟩ := hQ68
    have N68 := Fr.app N65 N68q
    have f69 := f66.keep K68q
    have Z68 : n0 ≤ T68.heap.size := Nat.le_trans Z65 K68q.1
    rw [show (2 : Int64) + (1 : Int64) = (3 : Int64) by decide] at FP68
    have hmm3 := own_mulv hk3 hk3 (by decide)
    have hmb3 : 0 ≤ (k3 * k3).toInt ∧ (k3 * k3).toInt ≤ 1046529 := by rw [hmm3.1]; exact hmm3.2
    have hra3 := own_addv hr2 hk3 (by decide)
    have hr3 := hra3.2
    have hrv3 : ((k1 + k2) + k3).toInt = k1.toInt + k2.toInt + k3.toInt := by rw [hra3.1, hrv2]
    have hqa3 := own_addv hq2 hmb3 (by decide)
    have hq3 := hqa3.2
    have hqv3 : (((k1 * k1) + (k2 * k2)) + (k3 * k3)).toInt = k1.toInt * k1.toInt + k2.toInt * k2.toInt + k3.toInt * k3.toInt := by rw [hqa3.1, hqv2, hmm3.1]
    show Own.Fin p e below (T68.setTop (mkF m 126 #[.val (.int p1), .val (.int p2), .val (.int p3), .val (.int p4), .val (.int p5), .val (.int p6), .val (.int (3 : Int32)), .val (.long k1), .second, .val (.long k2), .second, .val (.long k3), .second, .val (.int d1), .val (.int d2), .val (.int d3), .val (.ref b54), .unset, .unset, .unset, .unset, .unset, .unset, .unset, .unset] [])) _
    refine Own.go (fun t k => XS.aload X68.here hx rfl (hb hby at_126) rfl rfl k) ?_
    show Own.Fin p e below (T68.setTop (mkF m 128 #[.val (.int p1), .val (.int p2), .val (.int p3), .val (.int p4), .val (.int p5), .val (.int p6), .val (.int (3 : Int32)), .val (.long k1), .second, .val (.long k2), .second, .val (.long k3), .second, .val (.int d1), .val (.int d2), .val (.int d3), .val (.ref b54), .unset, .unset, .unset, .unset, .unset, .unset, .unset, .unset] [(.ref b54)])) _
    have hcs : ((k1 + k2) + k3).toInt * ((k1 + k2) + k3).toInt ≤ (3 : Int64).toInt * (((k1 * k1) + (k2 * k2)) + (k3 * k3)).toInt := by
      rw [hrv3, hqv3, show (3 : Int64).toInt = 3 by decide]
      exact own_cs3 _ _ _
    refine Own.cV X68 hx hZ hown (hw _ (List.mem_of_getElem? (i := 10) rfl)) (hw _ (List.mem_of_getElem? (i := 11) rfl)) (notFace_of_selects (args := #[]) (mvT hZ (hw _ (List.mem_of_getElem? (i := 13) rfl)))) (hw _ (List.mem_of_getElem? (i := 13) rfl)) (hw _ (List.mem_of_getElem? (i := 12) rfl)) (hw _ (List.mem_of_getElem? (i := 3) rfl)) (hw _ (List.mem_of_getElem? (i := 14) rfl)) (by decide) (rm3 l Z a0 hw [] b54 (3 : Int64) ((k1 + k2) + k3) (((k1 * k1) + (k2 * k2)) + (k3 * k3)) T68.heap n0 Z68 FP68 FR68 FS68 ⟨by decide, by decide⟩ ⟨hr3.1, Int.le_trans hr3.2 (by decide)⟩ ⟨hq3.1, Int.le_trans hq3.2 (by decide)⟩ hcs) (by decide) (W := 0) (by decide) (argsL := []) (rest := []) f69 (by rw [hml]; rfl) (lenOf pd_2 rfl) rfl (Nat.le_of_eq rfl) (hb hby at_128) rfl (by decide) (by decide) ?_
    intro T70 L70 v70 X70 hQ70
    obtain ⟨rfl, N70q, e70⟩ := hQ70
    have N70 := Fr.app N68 N70q
    show Own.Fin p e below (T70.setTop (mkF m 131 #[.val (.int p1), .val (.int p2), .val (.int p3), .val (.int p4), .val (.int p5), .val (.int p6), .val (.int (3 : Int32)), .val (.long k1), .second, .val (.long k2), .second, .val (.long k3), .second, .val (.int d1), .val (.int d2), .val (.int d3), .val (.ref b54), .unset, .unset, .unset, .unset, .unset, .unset, .unset, .unset] [(.double (F_st (3 : Int64) ((k1 + k2) + k3) (((k1 * k1) + (k2 * k2)) + (k3 * k3))))])) _
    refine Own.go (fun t k => XS.dstore X70.here hx rfl (hb hby at_131) rfl (l' := #[.val (.int p1), .val (.int p2), .val (.int p3), .val (.int p4), .val (.int p5), .val (.int p6), .val (.int (3 : Int32)), .val (.long k1), .second, .val (.long k2), .second, .val (.long k3), .second, .val (.int d1), .val (.int d2), .val (.int d3), .val (.ref b54), .val (.double (F_st (3 : Int64) ((k1 + k2) + k3) (((k1 * k1) + (k2 * k2)) + (k3 * k3)))), .second, .unset, .unset, .unset, .unset, .unset, .unset]) rfl k) ?_
    show Own.Fin p e below (T70.setTop (mkF m 133 #[.val (.int p1), .val (.int p2), .val (.int p3), .val (.int p4), .val (.int p5), .val (.int p6), .val (.int (3 : Int32)), .val (.long k1), .second, .val (.long k2), .second, .val (.long k3), .second, .val (.int d1), .val (.int d2), .val (.int d3), .val (.ref b54), .val (.double (F_st (3 : Int64) ((k1 + k2) + k3) (((k1 * k1) + (k2 * k2)) + (k3 * k3)))), .second, .unset, .unset, .unset, .unset, .unset, .unset] [])) _
    refine Own.go (fun t k => XS.iload X70.here hx rfl (hb hby at_133) rfl k) ?_
    show Own.Fin p e below (T70.setTop (mkF m 135 #[.val (.int p1), .val (.int p2), .val (.int p3), .val (.int p4), .val (.int p5), .val (.int p6), .val (.int (3 : Int32)), .val (.long k1), .second, .val (.long k2), .second, .val (.long k3), .second, .val (.int d1), .val (.int d2), .val (.int d3), .val (.ref b54), .val (.double (F_st (3 : Int64) ((k1 + k2) + k3) (((k1 * k1) + (k2 * k2)) + (k3 * k3)))), .second, .unset, .unset, .unset, .unset, .unset, .unset] [(.int (3 : Int32))])) _
    have hc135_70 : ¬ ((3 : Int32) = (0 : Int32)) := by decide
    refine Own.go (fun t k => XS.ifYes X70.here hx rfl (pc0 := 135) (pc' := 151) rfl (hb hby at_135) rfl ((if0 _ _).trans (feq hc135_70).2) (by decide) (by decide) k) ?_
    show Own.Fin p e below (T70.setTop (mkF m 151 #[.val (.int p1), .val (.int p2), .val (.int p3), .val (.int p4), .val (.int p5), .val (.int p6), .val (.int (3 : Int32)), .val (.long k1), .second, .val (.long k2), .second, .val (.long k3), .second, .val (.int d1), .val (.int d2), .val (.int d3), .val (.ref b54), .val (.double (F_st (3 : Int64) ((k1 + k2) + k3) (((k1 * k1) + (k2 * k2)) + (k3 * k3)))), .second, .unset, .unset, .unset, .unset, .unset, .unset] [])) _
    refine Own.go (fun t k => XS.lload X70.here hx rfl (hb hby at_151) rfl k) ?_
    show Own.Fin p e below (T70.setTop (mkF m 153 #[.val (.int p1), .val (.int p2), .val (.int p3), .val (.int p4), .val (.int p5), .val (.int p6), .val (.int (3 : Int32)), .val (.long k1), .second, .val (.long k2), .second, .val (.long k3), .second, .val (.int d1), .val (.int d2), .val (.int d3), .val (.ref b54), .val (.double (F_st (3 : Int64) ((k1 + k2) + k3) (((k1 * k1) + (k2 * k2)) + (k3 * k3)))), .second, .unset, .unset, .unset, .unset, .unset, .unset] [(.long k1)])) _
    refine Own.go (fun t k => XS.lstore X70.here hx rfl (hb hby at_153) rfl (l' := #[.val (.int p1), .val (.int p2), .val (.int p3), .val (.int p4), .val (.int p5), .val (.int p6), .val (.int (3 : Int32)), .val (.long k1), .second, .val (.long k2), .second, .val (.long k3), .second, .val (.int d1), .val (.int d2), .val (.int d3), .val (.ref b54), .val (.double (F_st (3 : Int64) ((k1 + k2) + k3) (((k1 * k1) + (k2 * k2)) + (k3 * k3)))), .second, .val (.long k1), .second, .unset, .unset, .unset, .unset]) rfl k) ?_
    show Own.Fin p e below (T70.setTop (mkF m 155 #[.val (.int p1), .val (.int p2), .val (.int p3), .val (.int p4), .val (.int p5), .val (.int p6), .val (.int (3 : Int32)), .val (.long k1), .second, .val (.long k2), .second, .val (.long k3), .second, .val (.int d1), .val (.int d2), .val (.int d3), .val (.ref b54), .val (.double (F_st (3 : Int64) ((k1 + k2) + k3) (((k1 * k1) + (k2 * k2)) + (k3 * k3)))), .second, .val (.long k1), .second, .unset, .unset, .unset, .unset] [])) _
    refine Own.go (fun t k => XS.lload X70.here hx rfl (hb hby at_155) rfl k) ?_
    show Own.Fin p e below (T70.setTop (mkF m 157 #[.val (.int p1), .val (.int p2), .val (.int p3), .val (.int p4), .val (.int p5), .val (.int p6), .val (.int (3 : Int32)), .val (.long k1), .second, .val (.long k2), .second, .val (.long k3), .second, .val (.int d1), .val (.int d2), .val (.int d3), .val (.ref b54), .val (.double (F_st (3 : Int64) ((k1 + k2) + k3) (((k1 * k1) + (k2 * k2)) + (k3 * k3)))), .second, .val (.long k1), .second, .unset, .unset, .unset, .unset] [(.long k1)])) _
    refine Own.go (fun t k => XS.lload X70.here hx rfl (hb hby at_157) rfl k) ?_
    show Own.Fin p e below (T70.setTop (mkF m 159 #[.val (.int p1), .val (.int p2), .val (.int p3), .val (.int p4), .val (.int p5), .val (.int p6), .val (.int (3 : Int32)), .val (.long k1), .second, .val (.long k2), .second, .val (.long k3), .second, .val (.int d1), .val (.int d2), .val (.int d3), .val (.ref b54), .val (.double (F_st (3 : Int64) ((k1 + k2) + k3) (((k1 * k1) + (k2 * k2)) + (k3 * k3)))), .second, .val (.long k1), .second, .unset, .unset, .unset, .unset] [(.long k1), (.long k1)])) _
    refine Own.go (fun t k => XS.lmul X70.here hx rfl (hb hby at_159) rfl k) ?_
    show Own.Fin p e below (T70.setTop (mkF m 160 #[.val (.int p1), .val (.int p2), .val (.int p3), .val (.int p4), .val (.int p5), .val (.int p6), .val (.int (3 : Int32)), .val (.long k1), .second, .val (.long k2), .second, .val (.long k3), .second, .val (.int d1), .val (.int d2), .val (.int d3), .val (.ref b54), .val (.double (F_st (3 : Int64) ((k1 + k2) + k3) (((k1 * k1) + (k2 * k2)) + (k3 * k3)))), .second, .val (.long k1), .second, .unset, .unset, .unset, .unset] [(.long (k1 * k1))])) _
    refine Own.go (fun t k => XS.lstore X70.here hx rfl (hb hby at_160) rfl (l' := #[.val (.int p1), .val (.int p2), .val (.int p3), .val (.int p4), .val (.int p5), .val (.int p6), .val (.int (3 : Int32)), .val (.long k1), .second, .val (.long k2), .second, .val (.long k3), .second, .val (.int d1), .val (.int d2), .val (.int d3), .val (.ref b54), .val (.double (F_st (3 : Int64) ((k1 + k2) + k3) (((k1 * k1) + (k2 * k2)) + (k3 * k3)))), .second, .val (.long k1), .second, .val (.long (k1 * k1)), .second, .unset, .unset]) rfl k) ?_
    show Own.Fin p e below (T70.setTop (mkF m 162 #[.val (.int p1), .val (.int p2), .val (.int p3), .val (.int p4), .val (.int p5), .val (.int p6), .val (.int (3 : Int32)), .val (.long k1), .second, .val (.long k2), .second, .val (.long k3), .second, .val (.int d1), .val (.int d2), .val (.int d3), .val (.ref b54), .val (.double (F_st (3 : Int64) ((k1 + k2) + k3) (((k1 * k1) + (k2 * k2)) + (k3 * k3)))), .second, .val (.long k1), .second, .val (.long (k1 * k1)), .second, .unset, .unset] [])) _
    refine Own.go (fun t k => XS.iload X70.here hx rfl (hb hby at_162) rfl k) ?_
    show Own.Fin p e below (T70.setTop (mkF m 164 #[.val (.int p1), .val (.int p2), .val (.int p3), .val (.int p4), .val (.int p5), .val (.int p6), .val (.int (3 : Int32)), .val (.long k1), .second, .val (.long k2), .second, .val (.long k3), .second, .val (.int d1), .val (.int d2), .val (.int d3), .val (.ref b54), .val (.double (F_st (3 : Int64) ((k1 + k2) + k3) (((k1 * k1) + (k2 * k2)) + (k3 * k3)))), .second, .val (.long k1), .second, .val (.long (k1 * k1)), .second, .unset, .unset] [(.int (3 : Int32))])) _
    refine Own.go (fun t k => XS.iconst X70.here hx rfl (hb hby at_164) k) ?_
    show Own.Fin p e below (T70.setTop (mkF m 165 #[.val (.int p1), .val (.int p2), .val (.int p3), .val (.int p4), .val (.int p5), .val (.int p6), .val (.int (3 : Int32)), .val (.long k1), .second, .val (.long k2), .second, .val (.long k3), .second, .val (.int d1), .val (.int d2), .val (.int d3), .val (.ref b54), .val (.double (F_st (3 : Int64) ((k1 + k2) + k3) (((k1 * k1) + (k2 * k2)) + (k3 * k3)))), .second, .val (.long k1), .second, .val (.long (k1 * k1)), .second, .unset, .unset] [(.int (2 : Int32)), (.int (3 : Int32))])) _
    have hc165_71 : ¬ ((3 : Int32) < (2 : Int32)) := by decide
    refine Own.go (fun t k => XS.icmpNo X70.here hx rfl (hb hby at_165) rfl (flt hc165_71).1 k) ?_
    show Own.Fin p e below (T70.setTop (mkF m 168 #[.val (.int p1), .val (.int p2), .val (.int p3), .val (.int p4), .val (.int p5), .val (.int p6), .val (.int (3 : Int32)), .val (.long k1), .second, .val (.long k2), .second, .val (.long k3), .second, .val (.int d1), .val (.int d2), .val (.int d3), .val (.ref b54), .val (.double (F_st (3 : Int64) ((k1 + k2) + k3) (((k1 * k1) + (k2 * k2)) + (k3 * k3)))), .second, .val (.long k1), .second, .val (.long (k1 * k1)), .second, .unset, .unset] [])) _
    refine Own.go (fun t k => XS.lload X70.here hx rfl (hb hby at_168) rfl k) ?_
    show Own.Fin p e below (T70.setTop (mkF m 170 #[.val (.int p1), .val (.int p2), .val (.int p3), .val (.int p4), .val (.int p5), .val (.int p6), .val (.int (3 : Int32)), .val (.long k1), .second, .val (.long k2), .second, .val (.long k3), .second, .val (.int d1), .val (.int d2), .val (.int d3), .val (.ref b54), .val (.double (F_st (3 : Int64) ((k1 + k2) + k3) (((k1 * k1) + (k2 * k2)) + (k3 * k3)))), .second, .val (.long k1), .second, .val (.long (k1 * k1)), .second, .unset, .unset] [(.long k1)])) _
    refine Own.go (fun t k => XS.lload X70.here hx rfl (hb hby at_170) rfl k) ?_
    show Own.Fin p e below (T70.setTop (mkF m 172 #[.val (.int p1), .val (.int p2), .val (.int p3), .val (.int p4), .val (.int p5), .val (.int p6), .val (.int (3 : Int32)), .val (.long k1), .second, .val (.long k2), .second, .val (.long k3), .second, .val (.int d1), .val (.int d2), .val (.int d3), .val (.ref b54), .val (.double (F_st (3 : Int64) ((k1 + k2) + k3) (((k1 * k1) + (k2 * k2)) + (k3 * k3)))), .second, .val (.long k1), .second, .val (.long (k1 * k1)), .second, .unset, .unset] [(.long k2), (.long k1)])) _
    refine Own.go (fun t k => XS.ladd X70.here hx rfl (hb hby at_172) rfl k) ?_
    show Own.Fin p e below (T70.setTop (mkF m 173 #[.val (.int p1), .val (.int p2), .val (.int p3), .val (.int p4), .val (.int p5), .val (.int p6), .val (.int (3 : Int32)), .val (.long k1), .second, .val (.long k2), .second, .val (.long k3), .second, .val (.int d1), .val (.int d2), .val (.int d3), .val (.ref b54), .val (.double (F_st (3 : Int64) ((k1 + k2) + k3) (((k1 * k1) + (k2 * k2)) + (k3 * k3)))), .second, .val (.long k1), .second, .val (.long (k1 * k1)), .second, .unset, .unset] [(.long (k1 + k2))])) _
    refine Own.go (fun t k => XS.lstore X70.here hx rfl (hb hby at_173) rfl (l' := #[.val (.int p1), .val (.int p2), .val (.int p3), .val (.int p4), .val (.int p5), .val (.int p6), .val (.int (3 : Int32)), .val (.long k1), .second, .val (.long k2), .second, .val (.long k3), .second, .val (.int d1), .val (.int d2), .val (.int d3), .val (.ref b54), .val (.double (F_st (3 : Int64) ((k1 + k2) + k3) (((k1 * k1) + (k2 * k2)) + (k3 * k3)))), .second, .val (.long (k1 + k2)), .second, .val (.long (k1 * k1)), .second, .unset, .unset]) rfl k) ?_
    show Own.Fin p e below (T70.setTop (mkF m 175 #[.val (.int p1), .val (.int p2), .val (.int p3), .val (.int p4), .val (.int p5), .val (.int p6), .val (.int (3 : Int32)), .val (.long k1), .second, .val (.long k2), .second, .val (.long k3), .second, .val (.int d1), .val (.int d2), .val (.int d3), .val (.ref b54), .val (.double (F_st (3 : Int64) ((k1 + k2) + k3) (((k1 * k1) + (k2 * k2)) + (k3 * k3)))), .second, .val (.long (k1 + k2)), .second, .val (.long (k1 * k1)), .second, .unset, .unset] [])) _
    refine Own.go (fun t k => XS.lload X70.here hx rfl (hb hby at_175) rfl k) ?_
    show Own.Fin p e below (T70.setTop (mkF m 177 #[.val (.int p1), .val (.int p2), .val (.int p3), .val (.int p4), .val (.int p5), .val (.int p6), .val (.int (3 : Int32)), .val (.long k1), .second, .val (.long k2), .second, .val (.long k3), .second, .val (.int d1), .val (.int d2), .val (.int d3), .val (.ref b54), .val (.double (F_st (3 : Int64) ((k1 + k2) + k3) (((k1 * k1) + (k2 * k2)) + (k3 * k3)))), .second, .val (.long (k1 + k2)), .second, .val (.long (k1 * k1)), .second, .unset, .unset] [(.long (k1 * k1))])) _
    refine Own.go (fun t k => XS.lload X70.here hx rfl (hb hby at_177) rfl k) ?_
    show Own.Fin p e below (T70.setTop (mkF m 179 #[.val (.int p1), .val (.int p2), .val (.int p3), .val (.int p4), .val (.int p5), .val (.int p6), .val (.int (3 : Int32)), .val (.long k1), .second, .val (.long k2), .second, .val (.long k3), .second, .val (.int d1), .val (.int d2), .val (.int d3), .val (.ref b54), .val (.double (F_st (3 : Int64) ((k1 + k2) + k3) (((k1 * k1) + (k2 * k2)) + (k3 * k3)))), .second, .val (.long (k1 + k2)), .second, .val (.long (k1 * k1)), .second, .unset, .unset] [(.long k2), (.long (k1 * k1))])) _
    refine Own.go (fun t k => XS.lload X70.here hx rfl (hb hby at_179) rfl k) ?_
    show Own.Fin p e below (T70.setTop (mkF m 181 #[.val (.int p1), .val (.int p2), .val (.int p3), .val (.int p4), .val (.int p5), .val (.int p6), .val (.int (3 : Int32)), .val (.long k1), .second, .val (.long k2), .second, .val (.long k3), .second, .val (.int d1), .val (.int d2), .val (.int d3), .val (.ref b54), .val (.double (F_st (3 : Int64) ((k1 + k2) + k3) (((k1 * k1) + (k2 * k2)) + (k3 * k3)))), .second, .val (.long (k1 + k2)), .second, .val (.long (k1 * k1)), .second, .unset, .unset] [(.long k2), (.long k2), (.long (k1 * k1))])) _
    refine Own.go (fun t k => XS.lmul X70.here hx rfl (hb hby at_181) rfl k) ?_
    show Own.Fin p e below (T70.setTop (mkF m 182 #[.val (.int p1), .val (.int p2), .val (.int p3), .val (.int p4), .val (.int p5), .val (.int p6), .val (.int (3 : Int32)), .val (.long k1), .second, .val (.long k2), .second, .val (.long k3), .second, .val (.int d1), .val (.int d2), .val (.int d3), .val (.ref b54), .val (.double (F_st (3 : Int64) ((k1 + k2) + k3) (((k1 * k1) + (k2 * k2)) + (k3 * k3)))), .second, .val (.long (k1 + k2)), .second, .val (.long (k1 * k1)), .second, .unset, .unset] [(.long (k2 * k2)), (.long (k1 * k1))])) _
    refine Own.go (fun t k => XS.ladd X70.here hx rfl (hb hby at_182) rfl k) ?_
    show Own.Fin p e below (T70.setTop (mkF m 183 #[.val (.int p1), .val (.int p2), .val (.int p3), .val (.int p4), .val (.int p5), .val (.int p6), .val (.int (3 : Int32)), .val (.long k1), .second, .val (.long k2), .second, .val (.long k3), .second, .val (.int d1), .val (.int d2), .val (.int d3), .val (.ref b54), .val (.double (F_st (3 : Int64) ((k1 + k2) + k3) (((k1 * k1) + (k2 * k2)) + (k3 * k3)))), .second, .val (.long (k1 + k2)), .second, .val (.long (k1 * k1)), .second, .unset, .unset] [(.long ((k1 * k1) + (k2 * k2)))])) _
    refine Own.go (fun t k => XS.lstore X70.here hx rfl (hb hby at_183) rfl (l' := #[.val (.int p1), .val (.int p2), .val (.int p3), .val (.int p4), .val (.int p5), .val (.int p6), .val (.int (3 : Int32)), .val (.long k1), .second, .val (.long k2), .second, .val (.long k3), .second, .val (.int d1), .val (.int d2), .val (.int d3), .val (.ref b54), .val (.double (F_st (3 : Int64) ((k1 + k2) + k3) (((k1 * k1) + (k2 * k2)) + (k3 * k3)))), .second, .val (.long (k1 + k2)), .second, .val (.long ((k1 * k1) + (k2 * k2))), .second, .unset, .unset]) rfl k) ?_
    show Own.Fin p e below (T70.setTop (mkF m 185 #[.val (.int p1), .val (.int p2), .val (.int p3), .val (.int p4), .val (.int p5), .val (.int p6), .val (.int (3 : Int32)), .val (.long k1), .second, .val (.long k2), .second, .val (.long k3), .second, .val (.int d1), .val (.int d2), .val (.int d3), .val (.ref b54), .val (.double (F_st (3 : Int64) ((k1 + k2) + k3) (((k1 * k1) + (k2 * k2)) + (k3 * k3)))), .second, .val (.long (k1 + k2)), .second, .val (.long ((k1 * k1) + (k2 * k2))), .second, .unset, .unset] [])) _
    refine Own.go (fun t k => XS.iload X70.here hx rfl (hb hby at_185) rfl k) ?_
    show Own.Fin p e below (T70.setTop (mkF m 187 #[.val (.int p1), .val (.int p2), .val (.int p3), .val (.int p4), .val (.int p5), .val (.int p6), .val (.int (3 : Int32)), .val (.long k1), .second, .val (.long k2), .second, .val (.long k3), .second, .val (.int d1), .val (.int d2), .val (.int d3), .val (.ref b54), .val (.double (F_st (3 : Int64) ((k1 + k2) + k3) (((k1 * k1) + (k2 * k2)) + (k3 * k3)))), .second, .val (.long (k1 + k2)), .second, .val (.long ((k1 * k1) + (k2 * k2))), .second, .unset, .unset] [(.int (3 : Int32))])) _
    refine Own.go (fun t k => XS.iconst X70.here hx rfl (hb hby at_187) k) ?_
    show Own.Fin p e below (T70.setTop (mkF m 188 #[.val (.int p1), .val (.int p2), .val (.int p3), .val (.int p4), .val (.int p5), .val (.int p6), .val (.int (3 : Int32)), .val (.long k1), .second, .val (.long k2), .second, .val (.long k3), .second, .val (.int d1), .val (.int d2), .val (.int d3), .val (.ref b54), .val (.double (F_st (3 : Int64) ((k1 + k2) + k3) (((k1 * k1) + (k2 * k2)) + (k3 * k3)))), .second, .val (.long (k1 + k2)), .second, .val (.long ((k1 * k1) + (k2 * k2))), .second, .unset, .unset] [(.int (3 : Int32)), (.int (3 : Int32))])) _
    have hc188_72 : ¬ ((3 : Int32) < (3 : Int32)) := by decide
    refine Own.go (fun t k => XS.icmpNo X70.here hx rfl (hb hby at_188) rfl (flt hc188_72).1 k) ?_
    show Own.Fin p e below (T70.setTop (mkF m 191 #[.val (.int p1), .val (.int p2), .val (.int p3), .val (.int p4), .val (.int p5), .val (.int p6), .val (.int (3 : Int32)), .val (.long k1), .second, .val (.long k2), .second, .val (.long k3), .second, .val (.int d1), .val (.int d2), .val (.int d3), .val (.ref b54), .val (.double (F_st (3 : Int64) ((k1 + k2) + k3) (((k1 * k1) + (k2 * k2)) + (k3 * k3)))), .second, .val (.long (k1 + k2)), .second, .val (.long ((k1 * k1) + (k2 * k2))), .second, .unset, .unset] [])) _
    refine Own.go (fun t k => XS.lload X70.here hx rfl (hb hby at_191) rfl k) ?_
    show Own.Fin p e below (T70.setTop (mkF m 193 #[.val (.int p1), .val (.int p2), .val (.int p3), .val (.int p4), .val (.int p5), .val (.int p6), .val (.int (3 : Int32)), .val (.long k1), .second, .val (.long k2), .second, .val (.long k3), .second, .val (.int d1), .val (.int d2), .val (.int d3), .val (.ref b54), .val (.double (F_st (3 : Int64) ((k1 + k2) + k3) (((k1 * k1) + (k2 * k2)) + (k3 * k3)))), .second, .val (.long (k1 + k2)), .second, .val (.long ((k1 * k1) + (k2 * k2))), .second, .unset, .unset] [(.long (k1 + k2))])) _
    refine Own.go (fun t k => XS.lload X70.here hx rfl (hb hby at_193) rfl k) ?_
    show Own.Fin p e below (T70.setTop (mkF m 195 #[.val (.int p1), .val (.int p2), .val (.int p3), .val (.int p4), .val (.int p5), .val (.int p6), .val (.int (3 : Int32)), .val (.long k1), .second, .val (.long k2), .second, .val (.long k3), .second, .val (.int d1), .val (.int d2), .val (.int d3), .val (.ref b54), .val (.double (F_st (3 : Int64) ((k1 + k2) + k3) (((k1 * k1) + (k2 * k2)) + (k3 * k3)))), .second, .val (.long (k1 + k2)), .second, .val (.long ((k1 * k1) + (k2 * k2))), .second, .unset, .unset] [(.long k3), (.long (k1 + k2))])) _
    refine Own.go (fun t k => XS.ladd X70.here hx rfl (hb hby at_195) rfl k) ?_
    show Own.Fin p e below (T70.setTop (mkF m 196 #[.val (.int p1), .val (.int p2), .val (.int p3), .val (.int p4), .val (.int p5), .val (.int p6), .val (.int (3 : Int32)), .val (.long k1), .second, .val (.long k2), .second, .val (.long k3), .second, .val (.int d1), .val (.int d2), .val (.int d3), .val (.ref b54), .val (.double (F_st (3 : Int64) ((k1 + k2) + k3) (((k1 * k1) + (k2 * k2)) + (k3 * k3)))), .second, .val (.long (k1 + k2)), .second, .val (.long ((k1 * k1) + (k2 * k2))), .second, .unset, .unset] [(.long ((k1 + k2) + k3))])) _
    refine Own.go (fun t k => XS.lstore X70.here hx rfl (hb hby at_196) rfl (l' := #[.val (.int p1), .val (.int p2), .val (.int p3), .val (.int p4), .val (.int p5), .val (.int p6), .val (.int (3 : Int32)), .val (.long k1), .second, .val (.long k2), .second, .val (.long k3), .second, .val (.int d1), .val (.int d2), .val (.int d3), .val (.ref b54), .val (.double (F_st (3 : Int64) ((k1 + k2) + k3) (((k1 * k1) + (k2 * k2)) + (k3 * k3)))), .second, .val (.long ((k1 + k2) + k3)), .second, .val (.long ((k1 * k1) + (k2 * k2))), .second, .unset, .unset]) rfl k) ?_
    show Own.Fin p e below (T70.setTop (mkF m 198 #[.val (.int p1), .val (.int p2), .val (.int p3), .val (.int p4), .val (.int p5), .val (.int p6), .val (.int (3 : Int32)), .val (.long k1), .second, .val (.long k2), .second, .val (.long k3), .second, .val (.int d1), .val (.int d2), .val (.int d3), .val (.ref b54), .val (.double (F_st (3 : Int64) ((k1 + k2) + k3) (((k1 * k1) + (k2 * k2)) + (k3 * k3)))), .second, .val (.long ((k1 + k2) + k3)), .second, .val (.long ((k1 * k1) + (k2 * k2))), .second, .unset, .unset] [])) _
    refine Own.go (fun t k => XS.lload X70.here hx rfl (hb hby at_198) rfl k) ?_
    show Own.Fin p e below (T70.setTop (mkF m 200 #[.val (.int p1), .val (.int p2), .val (.int p3), .val (.int p4), .val (.int p5), .val (.int p6), .val (.int (3 : Int32)), .val (.long k1), .second, .val (.long k2), .second, .val (.long k3), .second, .val (.int d1), .val (.int d2), .val (.int d3), .val (.ref b54), .val (.double (F_st (3 : Int64) ((k1 + k2) + k3) (((k1 * k1) + (k2 * k2)) + (k3 * k3)))), .second, .val (.long ((k1 + k2) + k3)), .second, .val (.long ((k1 * k1) + (k2 * k2))), .second, .unset, .unset] [(.long ((k1 * k1) + (k2 * k2)))])) _
    refine Own.go (fun t k => XS.lload X70.here hx rfl (hb hby at_200) rfl k) ?_
    show Own.Fin p e below (T70.setTop (mkF m 202 #[.val (.int p1), .val (.int p2), .val (.int p3), .val (.int p4), .val (.int p5), .val (.int p6), .val (.int (3 : Int32)), .val (.long k1), .second, .val (.long k2), .second, .val (.long k3), .second, .val (.int d1), .val (.int d2), .val (.int d3), .val (.ref b54), .val (.double (F_st (3 : Int64) ((k1 + k2) + k3) (((k1 * k1) + (k2 * k2)) + (k3 * k3)))), .second, .val (.long ((k1 + k2) + k3)), .second, .val (.long ((k1 * k1) + (k2 * k2))), .second, .unset, .unset] [(.long k3), (.long ((k1 * k1) + (k2 * k2)))])) _
    refine Own.go (fun t k => XS.lload X70.here hx rfl (hb hby at_202) rfl k) ?_
    show Own.Fin p e below (T70.setTop (mkF m 204 #[.val (.int p1), .val (.int p2), .val (.int p3), .val (.int p4), .val (.int p5), .val (.int p6), .val (.int (3 : Int32)), .val (.long k1), .second, .val (.long k2), .second, .val (.long k3), .second, .val (.int d1), .val (.int d2), .val (.int d3), .val (.ref b54), .val (.double (F_st (3 : Int64) ((k1 + k2) + k3) (((k1 * k1) + (k2 * k2)) + (k3 * k3)))), .second, .val (.long ((k1 + k2) + k3)), .second, .val (.long ((k1 * k1) + (k2 * k2))), .second, .unset, .unset] [(.long k3), (.long k3), (.long ((k1 * k1) + (k2 * k2)))])) _
    refine Own.go (fun t k => XS.lmul X70.here hx rfl (hb hby at_204) rfl k) ?_
    show Own.Fin p e below (T70.setTop (mkF m 205 #[.val (.int p1), .val (.int p2), .val (.int p3), .val (.int p4), .val (.int p5), .val (.int p6), .val (.int (3 : Int32)), .val (.long k1), .second, .val (.long k2), .second, .val (.long k3), .second, .val (.int d1), .val (.int d2), .val (.int d3), .val (.ref b54), .val (.double (F_st (3 : Int64) ((k1 + k2) + k3) (((k1 * k1) + (k2 * k2)) + (k3 * k3)))), .second, .val (.long ((k1 + k2) + k3)), .second, .val (.long ((k1 * k1) + (k2 * k2))), .second, .unset, .unset] [(.long (k3 * k3)), (.long ((k1 * k1) + (k2 * k2)))])) _
    refine Own.go (fun t k => XS.ladd X70.here hx rfl (hb hby at_205) rfl k) ?_
    show Own.Fin p e below (T70.setTop (mkF m 206 #[.val (.int p1), .val (.int p2), .val (.int p3), .val (.int p4), .val (.int p5), .val (.int p6), .val (.int (3 : Int32)), .val (.long k1), .second, .val (.long k2), .second, .val (.long k3), .second, .val (.int d1), .val (.int d2), .val (.int d3), .val (.ref b54), .val (.double (F_st (3 : Int64) ((k1 + k2) + k3) (((k1 * k1) + (k2 * k2)) + (k3 * k3)))), .second, .val (.long ((k1 + k2) + k3)), .second, .val (.long ((k1 * k1) + (k2 * k2))), .second, .unset, .unset] [(.long (((k1 * k1) + (k2 * k2)) + (k3 * k3)))])) _
    refine Own.go (fun t k => XS.lstore X70.here hx rfl (hb hby at_206) rfl (l' := #[.val (.int p1), .val (.int p2), .val (.int p3), .val (.int p4), .val (.int p5), .val (.int p6), .val (.int (3 : Int32)), .val (.long k1), .second, .val (.long k2), .second, .val (.long k3), .second, .val (.int d1), .val (.int d2), .val (.int d3), .val (.ref b54), .val (.double (F_st (3 : Int64) ((k1 + k2) + k3) (((k1 * k1) + (k2 * k2)) + (k3 * k3)))), .second, .val (.long ((k1 + k2) + k3)), .second, .val (.long (((k1 * k1) + (k2 * k2)) + (k3 * k3))), .second, .unset, .unset]) rfl k) ?_
    show Own.Fin p e below (T70.setTop (mkF m 208 #[.val (.int p1), .val (.int p2), .val (.int p3), .val (.int p4), .val (.int p5), .val (.int p6), .val (.int (3 : Int32)), .val (.long k1), .second, .val (.long k2), .second, .val (.long k3), .second, .val (.int d1), .val (.int d2), .val (.int d3), .val (.ref b54), .val (.double (F_st (3 : Int64) ((k1 + k2) + k3) (((k1 * k1) + (k2 * k2)) + (k3 * k3)))), .second, .val (.long ((k1 + k2) + k3)), .second, .val (.long (((k1 * k1) + (k2 * k2)) + (k3 * k3))), .second, .unset, .unset] [])) _
    refine Own.go (fun t k => XS.lload X70.here hx rfl (hb hby at_208) rfl k) ?_
    show Own.Fin p e below (T70.setTop (mkF m 210 #[.val (.int p1), .val (.int p2), .val (.int p3), .val (.int p4), .val (.int p5), .val (.int p6), .val (.int (3 : Int32)), .val (.long k1), .second, .val (.long k2), .second, .val (.long k3), .second, .val (.int d1), .val (.int d2), .val (.int d3), .val (.ref b54), .val (.double (F_st (3 : Int64) ((k1 + k2) + k3) (((k1 * k1) + (k2 * k2)) + (k3 * k3)))), .second, .val (.long ((k1 + k2) + k3)), .second, .val (.long (((k1 * k1) + (k2 * k2)) + (k3 * k3))), .second, .unset, .unset] [(.long (((k1 * k1) + (k2 * k2)) + (k3 * k3)))])) _
    refine Own.go (fun t k => XS.lconst X70.here hx rfl (hb hby at_210) k) ?_
    show Own.Fin p e below (T70.setTop (mkF m 211 #[.val (.int p1), .val (.int p2), .val (.int p3), .val (.int p4), .val (.int p5), .val (.int p6), .val (.int (3 : Int32)), .val (.long k1), .second, .val (.long k2), .second, .val (.long k3), .second, .val (.int d1), .val (.int d2), .val (.int d3), .val (.ref b54), .val (.double (F_st (3 : Int64) ((k1 + k2) + k3) (((k1 * k1) + (k2 * k2)) + (k3 * k3)))), .second, .val (.long ((k1 + k2) + k3)), .second, .val (.long (((k1 * k1) + (k2 * k2)) + (k3 * k3))), .second, .unset, .unset] [(.long (0 : Int64)), (.long (((k1 * k1) + (k2 * k2)) + (k3 * k3)))])) _
    refine Own.go (fun t k => XS.lcmp X70.here hx rfl (hb hby at_211) rfl k) ?_
    show Own.Fin p e below (T70.setTop (mkF m 212 #[.val (.int p1), .val (.int p2), .val (.int p3), .val (.int p4), .val (.int p5), .val (.int p6), .val (.int (3 : Int32)), .val (.long k1), .second, .val (.long k2), .second, .val (.long k3), .second, .val (.int d1), .val (.int d2), .val (.int d3), .val (.ref b54), .val (.double (F_st (3 : Int64) ((k1 + k2) + k3) (((k1 * k1) + (k2 * k2)) + (k3 * k3)))), .second, .val (.long ((k1 + k2) + k3)), .second, .val (.long (((k1 * k1) + (k2 * k2)) + (k3 * k3))), .second, .unset, .unset] [(.int (lcmpW (((k1 * k1) + (k2 * k2)) + (k3 * k3)) (0 : Int64)))])) _
    by_cases hc212_73 : (lcmpW (((k1 * k1) + (k2 * k2)) + (k3 * k3)) (0 : Int64)) = (0 : Int32)
    · skip
      refine Own.go (fun t k => XS.ifNo X70.here hx rfl (hb hby at_212) rfl ((if0 _ _).trans (teq hc212_73).2) k) ?_
      show Own.Fin p e below (T70.setTop (mkF m 215 #[.val (.int p1), .val (.int p2), .val (.int p3), .val (.int p4), .val (.int p5), .val (.int p6), .val (.int (3 : Int32)), .val (.long k1), .second, .val (.long k2), .second, .val (.long k3), .second, .val (.int d1), .val (.int d2), .val (.int d3), .val (.ref b54), .val (.double (F_st (3 : Int64) ((k1 + k2) + k3) (((k1 * k1) + (k2 * k2)) + (k3 * k3)))), .second, .val (.long ((k1 + k2) + k3)), .second, .val (.long (((k1 * k1) + (k2 * k2)) + (k3 * k3))), .second, .unset, .unset] [])) _
      refine Own.go (fun t k => XS.dload X70.here hx rfl (hb hby at_215) rfl k) ?_
      show Own.Fin p e below (T70.setTop (mkF m 217 #[.val (.int p1), .val (.int p2), .val (.int p3), .val (.int p4), .val (.int p5), .val (.int p6), .val (.int (3 : Int32)), .val (.long k1), .second, .val (.long k2), .second, .val (.long k3), .second, .val (.int d1), .val (.int d2), .val (.int d3), .val (.ref b54), .val (.double (F_st (3 : Int64) ((k1 + k2) + k3) (((k1 * k1) + (k2 * k2)) + (k3 * k3)))), .second, .val (.long ((k1 + k2) + k3)), .second, .val (.long (((k1 * k1) + (k2 * k2)) + (k3 * k3))), .second, .unset, .unset] [(.double (F_st (3 : Int64) ((k1 + k2) + k3) (((k1 * k1) + (k2 * k2)) + (k3 * k3))))])) _
      refine Own.go (fun t k => XS.dconst1 X70.here hx rfl (hb hby at_217) own_d1 k) ?_
      show Own.Fin p e below (T70.setTop (mkF m 218 #[.val (.int p1), .val (.int p2), .val (.int p3), .val (.int p4), .val (.int p5), .val (.int p6), .val (.int (3 : Int32)), .val (.long k1), .second, .val (.long k2), .second, .val (.long k3), .second, .val (.int d1), .val (.int d2), .val (.int d3), .val (.ref b54), .val (.double (F_st (3 : Int64) ((k1 + k2) + k3) (((k1 * k1) + (k2 * k2)) + (k3 * k3)))), .second, .val (.long ((k1 + k2) + k3)), .second, .val (.long (((k1 * k1) + (k2 * k2)) + (k3 * k3))), .second, .unset, .unset] [(.double (FP.l2d 1)), (.double (F_st (3 : Int64) ((k1 + k2) + k3) (((k1 * k1) + (k2 * k2)) + (k3 * k3))))])) _
      refine Own.go (fun t k => XS.dcmpS (v := (0 : Int32)) X70.here hx rfl (hb hby at_218) rfl (by rw [F_st, if_neg (by decide), if_pos hc212_73]; exact dcmpV_self (own_l2dnn _) _) k) ?_
      show Own.Fin p e below (T70.setTop (mkF m 219 #[.val (.int p1), .val (.int p2), .val (.int p3), .val (.int p4), .val (.int p5), .val (.int p6), .val (.int (3 : Int32)), .val (.long k1), .second, .val (.long k2), .second, .val (.long k3), .second, .val (.int d1), .val (.int d2), .val (.int d3), .val (.ref b54), .val (.double (F_st (3 : Int64) ((k1 + k2) + k3) (((k1 * k1) + (k2 * k2)) + (k3 * k3)))), .second, .val (.long ((k1 + k2) + k3)), .second, .val (.long (((k1 * k1) + (k2 * k2)) + (k3 * k3))), .second, .unset, .unset] [(.int (0 : Int32))])) _
      have hc219_74 : (0 : Int32) = (0 : Int32) := by decide
      refine Own.go (fun t k => XS.ifNo X70.here hx rfl (hb hby at_219) rfl ((if0 _ _).trans (teq hc219_74).2) k) ?_
      show Own.Fin p e below (T70.setTop (mkF m 222 #[.val (.int p1), .val (.int p2), .val (.int p3), .val (.int p4), .val (.int p5), .val (.int p6), .val (.int (3 : Int32)), .val (.long k1), .second, .val (.long k2), .second, .val (.long k3), .second, .val (.int d1), .val (.int d2), .val (.int d3), .val (.ref b54), .val (.double (F_st (3 : Int64) ((k1 + k2) + k3) (((k1 * k1) + (k2 * k2)) + (k3 * k3)))), .second, .val (.long ((k1 + k2) + k3)), .second, .val (.long (((k1 * k1) + (k2 * k2)) + (k3 * k3))), .second, .unset, .unset] [])) _
      refine Own.go (fun t k => XS.iconst X70.here hx rfl (hb hby at_222) k) ?_
      show Own.Fin p e below (T70.setTop (mkF m 223 #[.val (.int p1), .val (.int p2), .val (.int p3), .val (.int p4), .val (.int p5), .val (.int p6), .val (.int (3 : Int32)), .val (.long k1), .second, .val (.long k2), .second, .val (.long k3), .second, .val (.int d1), .val (.int d2), .val (.int d3), .val (.ref b54), .val (.double (F_st (3 : Int64) ((k1 + k2) + k3) (((k1 * k1) + (k2 * k2)) + (k3 * k3)))), .second, .val (.long ((k1 + k2) + k3)), .second, .val (.long (((k1 * k1) + (k2 * k2)) + (k3 * k3))), .second, .unset, .unset] [(.int (1 : Int32))])) _
      refine Own.go (fun t k => XS.goto X70.here hx rfl (pc0 := 223) (pc' := 227) rfl (hb hby at_223) (by decide) (by decide) k) ?_
      show Own.Fin p e below (T70.setTop (mkF m 227 #[.val (.int p1), .val (.int p2), .val (.int p3), .val (.int p4), .val (.int p5), .val (.int p6), .val (.int (3 : Int32)), .val (.long k1), .second, .val (.long k2), .second, .val (.long k3), .second, .val (.int d1), .val (.int d2), .val (.int d3), .val (.ref b54), .val (.double (F_st (3 : Int64) ((k1 + k2) + k3) (((k1 * k1) + (k2 * k2)) + (k3 * k3)))), .second, .val (.long ((k1 + k2) + k3)), .second, .val (.long (((k1 * k1) + (k2 * k2)) + (k3 * k3))), .second, .unset, .unset] [(.int (1 : Int32))])) _
      refine Own.retN X70 hx Bd.notSynchronized (t := .boolean) Bd.returns (by simp) (hb hby at_227) (by decide) (by decide) ?_
      exact ⟨rfl, N70⟩
    · skip
      refine Own.go (fun t k => XS.ifYes X70.here hx rfl (pc0 := 212) (pc' := 228) rfl (hb hby at_212) rfl ((if0 _ _).trans (feq hc212_73).2) (by decide) (by decide) k) ?_
      show Own.Fin p e below (T70.setTop (mkF m 228 #[.val (.int p1), .val (.int p2), .val (.int p3), .val (.int p4), .val (.int p5), .val (.int p6), .val (.int (3 : Int32)), .val (.long k1), .second, .val (.long k2), .second, .val (.long k3), .second, .val (.int d1), .val (.int d2), .val (.int d3), .val (.ref b54), .val (.double (F_st (3 : Int64) ((k1 + k2) + k3) (((k1 * k1) + (k2 * k2)) + (k3 * k3)))), .second, .val (.long ((k1 + k2) + k3)), .second, .val (.long (((k1 * k1) + (k2 * k2)) + (k3 * k3))), .second, .unset, .unset] [])) _
      refine Own.go (fun t k => XS.dconst1 X70.here hx rfl (hb hby at_228) own_d1 k) ?_
      show Own.Fin p e below (T70.setTop (mkF m 229 #[.val (.int p1), .val (.int p2), .val (.int p3), .val (.int p4), .val (.int p5), .val (.int p6), .val (.int (3 : Int32)), .val (.long k1), .second, .val (.long k2), .second, .val (.long k3), .second, .val (.int d1), .val (.int d2), .val (.int d3), .val (.ref b54), .val (.double (F_st (3 : Int64) ((k1 + k2) + k3) (((k1 * k1) + (k2 * k2)) + (k3 * k3)))), .second, .val (.long ((k1 + k2) + k3)), .second, .val (.long (((k1 * k1) + (k2 * k2)) + (k3 * k3))), .second, .unset, .unset] [(.double (FP.l2d 1))])) _
      refine Own.go (fun t k => XS.lload X70.here hx rfl (hb hby at_229) rfl k) ?_
      show Own.Fin p e below (T70.setTop (mkF m 231 #[.val (.int p1), .val (.int p2), .val (.int p3), .val (.int p4), .val (.int p5), .val (.int p6), .val (.int (3 : Int32)), .val (.long k1), .second, .val (.long k2), .second, .val (.long k3), .second, .val (.int d1), .val (.int d2), .val (.int d3), .val (.ref b54), .val (.double (F_st (3 : Int64) ((k1 + k2) + k3) (((k1 * k1) + (k2 * k2)) + (k3 * k3)))), .second, .val (.long ((k1 + k2) + k3)), .second, .val (.long (((k1 * k1) + (k2 * k2)) + (k3 * k3))), .second, .unset, .unset] [(.long ((k1 + k2) + k3)), (.double (FP.l2d 1))])) _
      refine Own.go (fun t k => XS.lload X70.here hx rfl (hb hby at_231) rfl k) ?_
      show Own.Fin p e below (T70.setTop (mkF m 233 #[.val (.int p1), .val (.int p2), .val (.int p3), .val (.int p4), .val (.int p5), .val (.int p6), .val (.int (3 : Int32)), .val (.long k1), .second, .val (.long k2), .second, .val (.long k3), .second, .val (.int d1), .val (.int d2), .val (.int d3), .val (.ref b54), .val (.double (F_st (3 : Int64) ((k1 + k2) + k3) (((k1 * k1) + (k2 * k2)) + (k3 * k3)))), .second, .val (.long ((k1 + k2) + k3)), .second, .val (.long (((k1 * k1) + (k2 * k2)) + (k3 * k3))), .second, .unset, .unset] [(.long ((k1 + k2) + k3)), (.long ((k1 + k2) + k3)), (.double (FP.l2d 1))])) _
      refine Own.go (fun t k => XS.lmul X70.here hx rfl (hb hby at_233) rfl k) ?_
      show Own.Fin p e below (T70.setTop (mkF m 234 #[.val (.int p1), .val (.int p2), .val (.int p3), .val (.int p4), .val (.int p5), .val (.int p6), .val (.int (3 : Int32)), .val (.long k1), .second, .val (.long k2), .second, .val (.long k3), .second, .val (.int d1), .val (.int d2), .val (.int d3), .val (.ref b54), .val (.double (F_st (3 : Int64) ((k1 + k2) + k3) (((k1 * k1) + (k2 * k2)) + (k3 * k3)))), .second, .val (.long ((k1 + k2) + k3)), .second, .val (.long (((k1 * k1) + (k2 * k2)) + (k3 * k3))), .second, .unset, .unset] [(.long (((k1 + k2) + k3) * ((k1 + k2) + k3))), (.double (FP.l2d 1))])) _
      refine Own.go (fun t k => XS.l2dS X70.here hx rfl (hb hby at_234) rfl rfl k) ?_
      show Own.Fin p e below (T70.setTop (mkF m 235 #[.val (.int p1), .val (.int p2), .val (.int p3), .val (.int p4), .val (.int p5), .val (.int p6), .val (.int (3 : Int32)), .val (.long k1), .second, .val (.long k2), .second, .val (.long k3), .second, .val (.int d1), .val (.int d2), .val (.int d3), .val (.ref b54), .val (.double (F_st (3 : Int64) ((k1 + k2) + k3) (((k1 * k1) + (k2 * k2)) + (k3 * k3)))), .second, .val (.long ((k1 + k2) + k3)), .second, .val (.long (((k1 * k1) + (k2 * k2)) + (k3 * k3))), .second, .unset, .unset] [(.double (FP.l2d (((k1 + k2) + k3) * ((k1 + k2) + k3)))), (.double (FP.l2d 1))])) _
      refine Own.go (fun t k => XS.iload X70.here hx rfl (hb hby at_235) rfl k) ?_
      show Own.Fin p e below (T70.setTop (mkF m 237 #[.val (.int p1), .val (.int p2), .val (.int p3), .val (.int p4), .val (.int p5), .val (.int p6), .val (.int (3 : Int32)), .val (.long k1), .second, .val (.long k2), .second, .val (.long k3), .second, .val (.int d1), .val (.int d2), .val (.int d3), .val (.ref b54), .val (.double (F_st (3 : Int64) ((k1 + k2) + k3) (((k1 * k1) + (k2 * k2)) + (k3 * k3)))), .second, .val (.long ((k1 + k2) + k3)), .second, .val (.long (((k1 * k1) + (k2 * k2)) + (k3 * k3))), .second, .unset, .unset] [(.int (3 : Int32)), (.double (FP.l2d (((k1 + k2) + k3) * ((k1 + k2) + k3)))), (.double (FP.l2d 1))])) _
      refine Own.go (fun t k => XS.i2l X70.here hx rfl (hb hby at_237) rfl k) ?_
      show Own.Fin p e below (T70.setTop (mkF m 238 #[.val (.int p1), .val (.int p2), .val (.int p3), .val (.int p4), .val (.int p5), .val (.int p6), .val (.int (3 : Int32)), .val (.long k1), .second, .val (.long k2), .second, .val (.long k3), .second, .val (.int d1), .val (.int d2), .val (.int d3), .val (.ref b54), .val (.double (F_st (3 : Int64) ((k1 + k2) + k3) (((k1 * k1) + (k2 * k2)) + (k3 * k3)))), .second, .val (.long ((k1 + k2) + k3)), .second, .val (.long (((k1 * k1) + (k2 * k2)) + (k3 * k3))), .second, .unset, .unset] [(.long (((3 : Int32)).toInt64)), (.double (FP.l2d (((k1 + k2) + k3) * ((k1 + k2) + k3)))), (.double (FP.l2d 1))])) _
      rw [show ((3 : Int32)).toInt64 = (3 : Int64) by decide]
      show Own.Fin p e below (T70.setTop (mkF m 238 #[.val (.int p1), .val (.int p2), .val (.int p3), .val (.int p4), .val (.int p5), .val (.int p6), .val (.int (3 : Int32)), .val (.long k1), .second, .val (.long k2), .second, .val (.long k3), .second, .val (.int d1), .val (.int d2), .val (.int d3), .val (.ref b54), .val (.double (F_st (3 : Int64) ((k1 + k2) + k3) (((k1 * k1) + (k2 * k2)) + (k3 * k3)))), .second, .val (.long ((k1 + k2) + k3)), .second, .val (.long (((k1 * k1) + (k2 * k2)) + (k3 * k3))), .second, .unset, .unset] [(.long (3 : Int64)), (.double (FP.l2d (((k1 + k2) + k3) * ((k1 + k2) + k3)))), (.double (FP.l2d 1))])) _
      refine Own.go (fun t k => XS.lload X70.here hx rfl (hb hby at_238) rfl k) ?_
      show Own.Fin p e below (T70.setTop (mkF m 240 #[.val (.int p1), .val (.int p2), .val (.int p3), .val (.int p4), .val (.int p5), .val (.int p6), .val (.int (3 : Int32)), .val (.long k1), .second, .val (.long k2), .second, .val (.long k3), .second, .val (.int d1), .val (.int d2), .val (.int d3), .val (.ref b54), .val (.double (F_st (3 : Int64) ((k1 + k2) + k3) (((k1 * k1) + (k2 * k2)) + (k3 * k3)))), .second, .val (.long ((k1 + k2) + k3)), .second, .val (.long (((k1 * k1) + (k2 * k2)) + (k3 * k3))), .second, .unset, .unset] [(.long (((k1 * k1) + (k2 * k2)) + (k3 * k3))), (.long (3 : Int64)), (.double (FP.l2d (((k1 + k2) + k3) * ((k1 + k2) + k3)))), (.double (FP.l2d 1))])) _
      refine Own.go (fun t k => XS.lmul X70.here hx rfl (hb hby at_240) rfl k) ?_
      show Own.Fin p e below (T70.setTop (mkF m 241 #[.val (.int p1), .val (.int p2), .val (.int p3), .val (.int p4), .val (.int p5), .val (.int p6), .val (.int (3 : Int32)), .val (.long k1), .second, .val (.long k2), .second, .val (.long k3), .second, .val (.int d1), .val (.int d2), .val (.int d3), .val (.ref b54), .val (.double (F_st (3 : Int64) ((k1 + k2) + k3) (((k1 * k1) + (k2 * k2)) + (k3 * k3)))), .second, .val (.long ((k1 + k2) + k3)), .second, .val (.long (((k1 * k1) + (k2 * k2)) + (k3 * k3))), .second, .unset, .unset] [(.long ((3 : Int64) * (((k1 * k1) + (k2 * k2)) + (k3 * k3)))), (.double (FP.l2d (((k1 + k2) + k3) * ((k1 + k2) + k3)))), (.double (FP.l2d 1))])) _
      refine Own.go (fun t k => XS.l2dS X70.here hx rfl (hb hby at_241) rfl rfl k) ?_
      show Own.Fin p e below (T70.setTop (mkF m 242 #[.val (.int p1), .val (.int p2), .val (.int p3), .val (.int p4), .val (.int p5), .val (.int p6), .val (.int (3 : Int32)), .val (.long k1), .second, .val (.long k2), .second, .val (.long k3), .second, .val (.int d1), .val (.int d2), .val (.int d3), .val (.ref b54), .val (.double (F_st (3 : Int64) ((k1 + k2) + k3) (((k1 * k1) + (k2 * k2)) + (k3 * k3)))), .second, .val (.long ((k1 + k2) + k3)), .second, .val (.long (((k1 * k1) + (k2 * k2)) + (k3 * k3))), .second, .unset, .unset] [(.double (FP.l2d ((3 : Int64) * (((k1 * k1) + (k2 * k2)) + (k3 * k3))))), (.double (FP.l2d (((k1 + k2) + k3) * ((k1 + k2) + k3)))), (.double (FP.l2d 1))])) _
      refine Own.go (fun t k => XS.ddivS X70.here hx rfl (hb hby at_242) rfl (own_nn (own_x ⟨by decide, by decide⟩ ⟨hr3.1, Int.le_trans hr3.2 (by decide)⟩ ⟨hq3.1, Int.le_trans hq3.2 (by decide)⟩ hcs (by decide) hc212_73).1) rfl k) ?_
      show Own.Fin p e below (T70.setTop (mkF m 243 #[.val (.int p1), .val (.int p2), .val (.int p3), .val (.int p4), .val (.int p5), .val (.int p6), .val (.int (3 : Int32)), .val (.long k1), .second, .val (.long k2), .second, .val (.long k3), .second, .val (.int d1), .val (.int d2), .val (.int d3), .val (.ref b54), .val (.double (F_st (3 : Int64) ((k1 + k2) + k3) (((k1 * k1) + (k2 * k2)) + (k3 * k3)))), .second, .val (.long ((k1 + k2) + k3)), .second, .val (.long (((k1 * k1) + (k2 * k2)) + (k3 * k3))), .second, .unset, .unset] [(.double (FP.ddiv (FP.l2d (((k1 + k2) + k3) * ((k1 + k2) + k3))) (FP.l2d ((3 : Int64) * (((k1 * k1) + (k2 * k2)) + (k3 * k3)))))), (.double (FP.l2d 1))])) _
      refine Own.go (fun t k => XS.dsubS X70.here hx rfl (hb hby at_243) rfl (own_nn (own_x ⟨by decide, by decide⟩ ⟨hr3.1, Int.le_trans hr3.2 (by decide)⟩ ⟨hq3.1, Int.le_trans hq3.2 (by decide)⟩ hcs (by decide) hc212_73).2.1) rfl k) ?_
      show Own.Fin p e below (T70.setTop (mkF m 244 #[.val (.int p1), .val (.int p2), .val (.int p3), .val (.int p4), .val (.int p5), .val (.int p6), .val (.int (3 : Int32)), .val (.long k1), .second, .val (.long k2), .second, .val (.long k3), .second, .val (.int d1), .val (.int d2), .val (.int d3), .val (.ref b54), .val (.double (F_st (3 : Int64) ((k1 + k2) + k3) (((k1 * k1) + (k2 * k2)) + (k3 * k3)))), .second, .val (.long ((k1 + k2) + k3)), .second, .val (.long (((k1 * k1) + (k2 * k2)) + (k3 * k3))), .second, .unset, .unset] [(.double (F_x (3 : Int64) ((k1 + k2) + k3) (((k1 * k1) + (k2 * k2)) + (k3 * k3))))])) _
      refine Own.go (fun t k => XS.dstore X70.here hx rfl (hb hby at_244) rfl (l' := #[.val (.int p1), .val (.int p2), .val (.int p3), .val (.int p4), .val (.int p5), .val (.int p6), .val (.int (3 : Int32)), .val (.long k1), .second, .val (.long k2), .second, .val (.long k3), .second, .val (.int d1), .val (.int d2), .val (.int d3), .val (.ref b54), .val (.double (F_st (3 : Int64) ((k1 + k2) + k3) (((k1 * k1) + (k2 * k2)) + (k3 * k3)))), .second, .val (.long ((k1 + k2) + k3)), .second, .val (.long (((k1 * k1) + (k2 * k2)) + (k3 * k3))), .second, .val (.double (F_x (3 : Int64) ((k1 + k2) + k3) (((k1 * k1) + (k2 * k2)) + (k3 * k3)))), .second]) rfl k) ?_
      show Own.Fin p e below (T70.setTop (mkF m 246 #[.val (.int p1), .val (.int p2), .val (.int p3), .val (.int p4), .val (.int p5), .val (.int p6), .val (.int (3 : Int32)), .val (.long k1), .second, .val (.long k2), .second, .val (.long k3), .second, .val (.int d1), .val (.int d2), .val (.int d3), .val (.ref b54), .val (.double (F_st (3 : Int64) ((k1 + k2) + k3) (((k1 * k1) + (k2 * k2)) + (k3 * k3)))), .second, .val (.long ((k1 + k2) + k3)), .second, .val (.long (((k1 * k1) + (k2 * k2)) + (k3 * k3))), .second, .val (.double (F_x (3 : Int64) ((k1 + k2) + k3) (((k1 * k1) + (k2 * k2)) + (k3 * k3)))), .second] [])) _
      refine Own.go (fun t k => XS.dload X70.here hx rfl (hb hby at_246) rfl k) ?_
      show Own.Fin p e below (T70.setTop (mkF m 248 #[.val (.int p1), .val (.int p2), .val (.int p3), .val (.int p4), .val (.int p5), .val (.int p6), .val (.int (3 : Int32)), .val (.long k1), .second, .val (.long k2), .second, .val (.long k3), .second, .val (.int d1), .val (.int d2), .val (.int d3), .val (.ref b54), .val (.double (F_st (3 : Int64) ((k1 + k2) + k3) (((k1 * k1) + (k2 * k2)) + (k3 * k3)))), .second, .val (.long ((k1 + k2) + k3)), .second, .val (.long (((k1 * k1) + (k2 * k2)) + (k3 * k3))), .second, .val (.double (F_x (3 : Int64) ((k1 + k2) + k3) (((k1 * k1) + (k2 * k2)) + (k3 * k3)))), .second] [(.double (F_st (3 : Int64) ((k1 + k2) + k3) (((k1 * k1) + (k2 * k2)) + (k3 * k3))))])) _
      refine Own.go (fun t k => XS.dload X70.here hx rfl (hb hby at_248) rfl k) ?_
      show Own.Fin p e below (T70.setTop (mkF m 250 #[.val (.int p1), .val (.int p2), .val (.int p3), .val (.int p4), .val (.int p5), .val (.int p6), .val (.int (3 : Int32)), .val (.long k1), .second, .val (.long k2), .second, .val (.long k3), .second, .val (.int d1), .val (.int d2), .val (.int d3), .val (.ref b54), .val (.double (F_st (3 : Int64) ((k1 + k2) + k3) (((k1 * k1) + (k2 * k2)) + (k3 * k3)))), .second, .val (.long ((k1 + k2) + k3)), .second, .val (.long (((k1 * k1) + (k2 * k2)) + (k3 * k3))), .second, .val (.double (F_x (3 : Int64) ((k1 + k2) + k3) (((k1 * k1) + (k2 * k2)) + (k3 * k3)))), .second] [(.double (F_x (3 : Int64) ((k1 + k2) + k3) (((k1 * k1) + (k2 * k2)) + (k3 * k3)))), (.double (F_st (3 : Int64) ((k1 + k2) + k3) (((k1 * k1) + (k2 * k2)) + (k3 * k3))))])) _
      refine Own.go (fun t k => XS.dcmpS (v := (0 : Int32)) X70.here hx rfl (hb hby at_250) rfl (by rw [F_st, if_neg (by decide), if_neg hc212_73]; exact own_pick (own_x ⟨by decide, by decide⟩ ⟨hr3.1, Int.le_trans hr3.2 (by decide)⟩ ⟨hq3.1, Int.le_trans hq3.2 (by decide)⟩ hcs (by decide) hc212_73).2.1 (own_x ⟨by decide, by decide⟩ ⟨hr3.1, Int.le_trans hr3.2 (by decide)⟩ ⟨hq3.1, Int.le_trans hq3.2 (by decide)⟩ hcs (by decide) hc212_73).2.2) k) ?_
      show Own.Fin p e below (T70.setTop (mkF m 251 #[.val (.int p1), .val (.int p2), .val (.int p3), .val (.int p4), .val (.int p5), .val (.int p6), .val (.int (3 : Int32)), .val (.long k1), .second, .val (.long k2), .second, .val (.long k3), .second, .val (.int d1), .val (.int d2), .val (.int d3), .val (.ref b54), .val (.double (F_st (3 : Int64) ((k1 + k2) + k3) (((k1 * k1) + (k2 * k2)) + (k3 * k3)))), .second, .val (.long ((k1 + k2) + k3)), .second, .val (.long (((k1 * k1) + (k2 * k2)) + (k3 * k3))), .second, .val (.double (F_x (3 : Int64) ((k1 + k2) + k3) (((k1 * k1) + (k2 * k2)) + (k3 * k3)))), .second] [(.int (0 : Int32))])) _
      have hc251_75 : (0 : Int32) = (0 : Int32) := by decide
      refine Own.go (fun t k => XS.ifNo X70.here hx rfl (hb hby at_251) rfl ((if0 _ _).trans (teq hc251_75).2) k) ?_
      show Own.Fin p e below (T70.setTop (mkF m 254 #[.val (.int p1), .val (.int p2), .val (.int p3), .val (.int p4), .val (.int p5), .val (.int p6), .val (.int (3 : Int32)), .val (.long k1), .second, .val (.long k2), .second, .val (.long k3), .second, .val (.int d1), .val (.int d2), .val (.int d3), .val (.ref b54), .val (.double (F_st (3 : Int64) ((k1 + k2) + k3) (((k1 * k1) + (k2 * k2)) + (k3 * k3)))), .second, .val (.long ((k1 + k2) + k3)), .second, .val (.long (((k1 * k1) + (k2 * k2)) + (k3 * k3))), .second, .val (.double (F_x (3 : Int64) ((k1 + k2) + k3) (((k1 * k1) + (k2 * k2)) + (k3 * k3)))), .second] [])) _
      refine Own.go (fun t k => XS.iconst X70.here hx rfl (hb hby at_254) k) ?_
      show Own.Fin p e below (T70.setTop (mkF m 255 #[.val (.int p1), .val (.int p2), .val (.int p3), .val (.int p4), .val (.int p5), .val (.int p6), .val (.int (3 : Int32)), .val (.long k1), .second, .val (.long k2), .second, .val (.long k3), .second, .val (.int d1), .val (.int d2), .val (.int d3), .val (.ref b54), .val (.double (F_st (3 : Int64) ((k1 + k2) + k3) (((k1 * k1) + (k2 * k2)) + (k3 * k3)))), .second, .val (.long ((k1 + k2) + k3)), .second, .val (.long (((k1 * k1) + (k2 * k2)) + (k3 * k3))), .second, .val (.double (F_x (3 : Int64) ((k1 + k2) + k3) (((k1 * k1) + (k2 * k2)) + (k3 * k3)))), .second] [(.int (1 : Int32))])) _
      refine Own.go (fun t k => XS.goto X70.here hx rfl (pc0 := 255) (pc' := 259) rfl (hb hby at_255) (by decide) (by decide) k) ?_
      show Own.Fin p e below (T70.setTop (mkF m 259 #[.val (.int p1), .val (.int p2), .val (.int p3), .val (.int p4), .val (.int p5), .val (.int p6), .val (.int (3 : Int32)), .val (.long k1), .second, .val (.long k2), .second, .val (.long k3), .second, .val (.int d1), .val (.int d2), .val (.int d3), .val (.ref b54), .val (.double (F_st (3 : Int64) ((k1 + k2) + k3) (((k1 * k1) + (k2 * k2)) + (k3 * k3)))), .second, .val (.long ((k1 + k2) + k3)), .second, .val (.long (((k1 * k1) + (k2 * k2)) + (k3 * k3))), .second, .val (.double (F_x (3 : Int64) ((k1 + k2) + k3) (((k1 * k1) + (k2 * k2)) + (k3 * k3)))), .second] [(.int (1 : Int32))])) _
      refine Own.retN X70 hx Bd.notSynchronized (t := .boolean) Bd.returns (by simp) (hb hby at_259) (by decide) (by decide) ?_
      exact ⟨rfl, N70⟩
set_option maxRecDepth 65536 in
set_option maxHeartbeats 40000000 in
theorem comes_1 {Post : Tables → Env → Array Value → State → Outcome → State → Prop} (hpost : ∀ tb e args s v u, (limb_1_1.after args s (.returned v) u = true ∧ limb_1_2.after args s (.returned v) u = true ∧ True) → FrameEnd s (.returned v) u (Jvm.fieldLocs frame_1_writes args s ++ Jvm.arrayLocs frame_1_arrays args s ++ Jvm.staticLocs frame_1_statics s) 16 128 → Post tb e args s (.returned v) u) :
    ArmFor flags0 classFile x code maxLocals ret World_1 tables_1 room_1 Calls_1 rest_1 Pre_1 Post := by
  intro l hfl _ _ p e ha hc hk s m args below hf hA hF happ hP
  obtain ⟨hcalls, hrest, hpre⟩ := hP
  obtain ⟨-, -, -, hnamed, -, -, -, hat⟩ := (Spec.applies_iff hf).mp happ
  obtain ⟨hg, hn⟩ := and_e (Cond.before_iff.mp (show (Jvm.Cond.and given_1 narrow_1).before args s = true from hpre))
  obtain ⟨g1, g2⟩ := and_e hg
  obtain ⟨g3, g4⟩ := and_e g2
  obtain ⟨g5, g6⟩ := and_e g4
  obtain ⟨g7, g8⟩ := and_e g6
  obtain ⟨g9, g10⟩ := and_e g8
  obtain ⟨g11, g12⟩ := and_e g10
  obtain ⟨w0, w1, w2, w3, w4, w5, rfl⟩ : ∃ w0 w1 w2 w3 w4 w5 : Value, args = #[w0, w1, w2, w3, w4, w5] := by
    have hs : args.size = 6 := by simpa [Cond.value, given_1] using g1
    obtain ⟨L⟩ := args
    match L, hs with
    | [w0, w1, w2, w3, w4, w5], _ => exact ⟨w0, w1, w2, w3, w4, w5, rfl⟩
  have hw := fun d (hd : d ∈ tables_1) => atoms_spec (ws := Jvm.Cond.code x code maxLocals ret :: tables_1) hat d (List.mem_cons_of_mem _ hd)
  have hfit : Fit s := fun {y c} hc i hi => by
    obtain ⟨ha, rfl⟩ := Array.getElem?_eq_some_iff.mp hc
    have q := List.all_eq_true.mp ((Array.all_eq_true_iff_forall_mem.mp hF) _ (Array.getElem_mem ha)) i (List.mem_range.mpr hi)
    simpa [Array.getElem?_eq_getElem hi] using q
  obtain ⟨i0, ei0⟩ := is_v g3
  obtain rfl : w0 = (.int i0) := Option.some.inj ei0
  obtain ⟨i1, ei1⟩ := is_v g5
  obtain rfl : w1 = (.int i1) := Option.some.inj ei1
  obtain ⟨i2, ei2⟩ := is_v g7
  obtain rfl : w2 = (.int i2) := Option.some.inj ei2
  obtain ⟨i3, ei3⟩ := is_v g9
  obtain rfl : w3 = (.int i3) := Option.some.inj ei3
  obtain ⟨i4, ei4⟩ := is_v g11
  obtain rfl : w4 = (.int i4) := Option.some.inj ei4
  obtain ⟨i5, ei5⟩ := is_v g12
  obtain rfl : w5 = (.int i5) := Option.some.inj ei5
  obtain ⟨n, o, h1, h2, h3, _, L, rfl, ⟨rfl, N⟩, hq⟩ := rm0 l s _ hw tables_1 i0 i1 i2 i3 i4 i5 s.heap s.heap.size (Nat.le_refl _)  p e ha hc hk s m _ below hf ((Spec.applies_iff_loose hf).mp happ).1 ⟨rfl, State.Warmed39.refl s, rfl⟩ trivial
  refine ⟨n, _, h1, h2, h3, hpost _ _ _ _ _ _ ⟨Cond.after_iff.mpr rfl, Cond.after_iff.mpr (eq_i res_at (Term.int_eval (1)) rfl), trivial⟩ ⟨hq.1, hq.2.1, (hq.2.2.sift fun y hy => Or.inr (N y hy)).mono (by decide) (by decide)⟩⟩
theorem main_1_1 : Claimed_1_1 := comes_1 fun _ _ _ _ _ _ h hF => ⟨h.1, hF⟩
theorem main_1_2 : Claimed_1_2 := comes_1 fun _ _ _ _ _ _ h hF => ⟨h.2.1, hF⟩
end Jvm.Pilot.@@N@@
namespace Jvm.Pilot.@@N@@
open Jvm Jvm.ClassFile Sem Op Lib Jvm.Free Jvm.Stand Jvm.Pilot.@@N@@.Jvm.D
/-! MADE BY PROGRAM (witnessworld.py) out of the Statement's table words and the real class files: 10 classes; the members and pool entries that the words name. The judged class is class 1, her method 1. -/
namespace start1
open Jvm.ClassFile
def u (s : String) : CpInfo := .utf8 (stringToUtf16 s)
/-- a pool by its gaps: so many unusable entries, then the entry; so many at the end -/
def gap : Nat → List CpInfo → List CpInfo
  | 0, r => r
  | n + 1, r => .unusable :: gap n r
def poolList (es : List (Nat × CpInfo)) (last : Nat) : List CpInfo := es.foldr (fun e r => gap e.1 (e.2 :: r)) (gap last [])
def pool (es : List (Nat × CpInfo)) (last : Nat) : Array CpInfo := ⟨poolList es last⟩
def fileOf (pool : Array CpInfo) (this : Nat) (attrs : Array Attribute := #[]) (ms : Array MethodInfo := #[]) (fl : Nat := 33) (sup : Nat := 0) (ifs : Array Nat := #[]) (fds : Array FieldInfo := #[]) : ClassFile where
  minorVersion := 0
  majorVersion := 65
  constantPool := pool
  accessFlags := fl
  thisClass := this
  superClass := sup
  interfaces := ifs
  fields := fds
  methods := ms
  attributes := attrs
def plain (name : String) (sup : Option ClassId) : Class where
  name := name
  kind := .ordinary
  loader := none
  accessFlags := 33
  super := sup
  interfaces := #[]
  cf := none
  fields := #[]
  methods := #[]
  instanceTypes := #[]
  staticTypes := #[]
  resolved := #[]
  callSites := []
  init := .initialized
  statics := none
  mirror := none

def pool0 : Array CpInfo := pool [(5, u "<init>"), (0, u "()V"), (1, .class_ 10), (1, u "java/lang/Object")] 113

def k0c0 : Code := { maxStack := 0, maxLocals := 1, code := object_method_1_code, exceptionTable := #[], attributes := #[] }
def k0m0 : Method := { name := "<init>", desc := "()V", sig := { parameters := [], returnType := none }, accessFlags := 1, code := some k0c0 }
/-- java/lang/Object -/
def k0 : Class := { plain "java/lang/Object" none with
  accessFlags := 33
  interfaces := #[]
  cf := some (fileOf pool0 8 #[] #[{ accessFlags := 1, nameIndex := 5, descriptorIndex := 6, attributes := #[] }] 33 0 #[] #[])
  fields := #[]
  methods := #[k0m0]
  instanceTypes := #[]
  staticTypes := #[]
  resolved := Array.replicate 124 none
  statics := none }

def pool1 : Array CpInfo := pool [(2, .class_ 4), (0, .nameAndType 5 6), (0, u "java/lang/Object"), (0, u "<init>"), (0, u "()V"), (0, .integer 1048575), (0, .class_ 9), (0, u "com/example/arachne/arachne/force/StressSum"), (0, .methodref 8 3), (0, .methodref 8 12), (0, .nameAndType 13 14), (0, u "add"), (0, u "(DI)V"), (0, .methodref 8 16), (0, .nameAndType 17 18), (0, u "stress"), (0, u "()D"), (0, .class_ 20), (0, u "com/example/arachne/arachne/force/StressSumAddPinLaw"), (2, u "law"), (0, u "(IIIIII)Z")] 3

def k1m0 : Method := { name := "<init>", desc := "()V", sig := { parameters := [], returnType := none }, accessFlags := 1, code := none }
def k1c1 : Code := { maxStack := 8, maxLocals := 25, code := code, exceptionTable := #[], attributes := #[] }
def k1m1 : Method := { name := "law", desc := "(IIIIII)Z", sig := { parameters := [.int, .int, .int, .int, .int, .int], returnType := some .boolean }, accessFlags := 9, code := some k1c1 }
/-- com/example/arachne/arachne/force/StressSumAddPinLaw -/
def k1 : Class := { plain "com/example/arachne/arachne/force/StressSumAddPinLaw" (some 0) with
  accessFlags := 49
  interfaces := #[]
  cf := some (fileOf pool1 19 #[] #[{ accessFlags := 1, nameIndex := 5, descriptorIndex := 6, attributes := #[] }, { accessFlags := 9, nameIndex := 23, descriptorIndex := 24, attributes := #[] }] 49 2 #[] #[])
  fields := #[]
  methods := #[k1m0, k1m1]
  instanceTypes := #[]
  staticTypes := #[]
  resolved := Array.replicate 28 none
  statics := none }

def pool2 : Array CpInfo := pool [(1, .methodref 2 3), (0, .class_ 4), (0, .nameAndType 5 6), (0, u "java/lang/Object"), (0, u "<init>"), (0, u "()V"), (0, .fieldref 8 9), (0, .class_ 10), (0, .nameAndType 11 12), (0, u "com/example/arachne/arachne/force/StressSum"), (0, u "pairs"), (0, u "J"), (0, .fieldref 8 14), (0, .nameAndType 15 16), (0, u "ratios"), (0, u "D"), (0, .fieldref 8 18), (0, .nameAndType 19 16), (0, u "squares"), (0, .methodref 21 22), (0, .class_ 23), (0, .nameAndType 24 25), (0, u "java/lang/Math"), (0, u "max"), (0, u "(DD)D"), (2, u "add"), (0, u "(DI)V"), (0, u "stress"), (0, u "()D")] 3

def k2c0 : Code := { maxStack := 1, maxLocals := 1, code := prog_41_method_1_code, exceptionTable := #[], attributes := #[] }
def k2m0 : Method := { name := "<init>", desc := "()V", sig := { parameters := [], returnType := none }, accessFlags := 0, code := some k2c0 }
def k2c1 : Code := { maxStack := 7, maxLocals := 6, code := prog_41_method_2_code, exceptionTable := #[], attributes := #[] }
def k2m1 : Method := { name := "add", desc := "(DI)V", sig := { parameters := [.double, .int], returnType := none }, accessFlags := 0, code := some k2c1 }
def k2c2 : Code := { maxStack := 10, maxLocals := 3, code := prog_41_method_3_code, exceptionTable := #[], attributes := #[] }
def k2m2 : Method := { name := "stress", desc := "()D", sig := { parameters := [], returnType := some .double }, accessFlags := 0, code := some k2c2 }
/-- com/example/arachne/arachne/force/StressSum -/
def k2 : Class := { plain "com/example/arachne/arachne/force/StressSum" (some 0) with
  accessFlags := 32
  interfaces := #[]
  cf := some (fileOf pool2 8 #[] #[{ accessFlags := 0, nameIndex := 5, descriptorIndex := 6, attributes := #[] }, { accessFlags := 0, nameIndex := 28, descriptorIndex := 29, attributes := #[] }, { accessFlags := 0, nameIndex := 30, descriptorIndex := 31, attributes := #[] }] 32 2 #[] #[{ accessFlags := 2, nameIndex := 11, descriptorIndex := 12, attributes := #[] }, { accessFlags := 2, nameIndex := 15, descriptorIndex := 16, attributes := #[] }, { accessFlags := 2, nameIndex := 19, descriptorIndex := 16, attributes := #[] }])
  fields := #[{ name := "pairs", type := .long, accessFlags := 2, slot := 0, constantValue := 0 }, { name := "ratios", type := .double, accessFlags := 2, slot := 1, constantValue := 0 }, { name := "squares", type := .double, accessFlags := 2, slot := 2, constantValue := 0 }]
  methods := #[k2m0, k2m1, k2m2]
  instanceTypes := #[.long, .double, .double]
  staticTypes := #[]
  resolved := Array.replicate 35 none
  statics := none }

def pool3 : Array CpInfo := pool [(1, .class_ 2), (0, u "java/lang/Math"), (1, .class_ 6), (1, u "java/lang/Object"), (0, u "<init>"), (0, u "()V"), (43, u "(DD)D"), (45, .class_ 100), (1, u "java/lang/Math$RandomNumberGeneratorHolder"), (71, u "negativeZeroFloatBits"), (0, u "J"), (2, u "negativeZeroDoubleBits"), (21, u "max"), (46, u "$assertionsDisabled"), (0, u "Z"), (91, u "twoToTheDoubleScaleDown"), (0, u "D"), (4, u "twoToTheDoubleScaleUp"), (9, u "E"), (3, u "PI"), (2, u "TAU"), (2, u "DEGREES_TO_RADIANS"), (0, u "RADIANS_TO_DEGREES")] 94

def k3m0 : Method := { name := "<init>", desc := "()V", sig := { parameters := [], returnType := none }, accessFlags := 2, code := none }
def k3c1 : Code := { maxStack := 4, maxLocals := 4, code := jdk_29_method_68_code, exceptionTable := #[], attributes := #[] }
def k3m1 : Method := { name := "max", desc := "(DD)D", sig := { parameters := [.double, .double], returnType := some .double }, accessFlags := 9, code := some k3c1 }
/-- java/lang/Math -/
def k3 : Class := { plain "java/lang/Math" (some 0) with
  accessFlags := 49
  interfaces := #[]
  cf := some (fileOf pool3 1 #[.nestMembers #[98]] #[{ accessFlags := 2, nameIndex := 7, descriptorIndex := 8, attributes := #[] }, { accessFlags := 9, nameIndex := 198, descriptorIndex := 52, attributes := #[] }] 49 4 #[] #[{ accessFlags := 25, nameIndex := 354, descriptorIndex := 339, attributes := #[] }, { accessFlags := 25, nameIndex := 358, descriptorIndex := 339, attributes := #[] }, { accessFlags := 25, nameIndex := 361, descriptorIndex := 339, attributes := #[] }, { accessFlags := 26, nameIndex := 364, descriptorIndex := 339, attributes := #[] }, { accessFlags := 26, nameIndex := 365, descriptorIndex := 339, attributes := #[] }, { accessFlags := 26, nameIndex := 172, descriptorIndex := 173, attributes := #[] }, { accessFlags := 26, nameIndex := 176, descriptorIndex := 173, attributes := #[] }, { accessFlags := 8, nameIndex := 344, descriptorIndex := 339, attributes := #[] }, { accessFlags := 8, nameIndex := 338, descriptorIndex := 339, attributes := #[] }, { accessFlags := 4120, nameIndex := 245, descriptorIndex := 246, attributes := #[] }])
  fields := #[{ name := "E", type := .double, accessFlags := 25, slot := 0, constantValue := 0 }, { name := "PI", type := .double, accessFlags := 25, slot := 1, constantValue := 0 }, { name := "TAU", type := .double, accessFlags := 25, slot := 2, constantValue := 0 }, { name := "DEGREES_TO_RADIANS", type := .double, accessFlags := 26, slot := 3, constantValue := 0 }, { name := "RADIANS_TO_DEGREES", type := .double, accessFlags := 26, slot := 4, constantValue := 0 }, { name := "negativeZeroFloatBits", type := .long, accessFlags := 26, slot := 5, constantValue := 0 }, { name := "negativeZeroDoubleBits", type := .long, accessFlags := 26, slot := 6, constantValue := 0 }, { name := "twoToTheDoubleScaleUp", type := .double, accessFlags := 8, slot := 7, constantValue := 0 }, { name := "twoToTheDoubleScaleDown", type := .double, accessFlags := 8, slot := 8, constantValue := 0 }, { name := "$assertionsDisabled", type := .boolean, accessFlags := 4120, slot := 9, constantValue := 0 }]
  methods := #[k3m0, k3m1]
  instanceTypes := #[]
  staticTypes := #[.double, .double, .double, .double, .double, .long, .long, .double, .double, .boolean]
  resolved := Array.replicate 460 none
  statics := none }

def pool4 : Array CpInfo := pool [(1, u "java/lang/Cloneable"), (0, .class_ 1), (0, u "java/lang/Object"), (0, .class_ 3)] 3

/-- java/lang/Cloneable -/
def k4 : Class := { plain "java/lang/Cloneable" (some 0) with
  accessFlags := 1537
  interfaces := #[]
  cf := some (fileOf pool4 2 #[] #[] 1537 4 #[] #[])
  fields := #[]
  methods := #[]
  instanceTypes := #[]
  staticTypes := #[]
  resolved := Array.replicate 8 none
  statics := none }

def pool5 : Array CpInfo := pool [(1, u "java/io/Serializable"), (0, .class_ 1), (0, u "java/lang/Object"), (0, .class_ 3)] 3

/-- java/io/Serializable -/
def k5 : Class := { plain "java/io/Serializable" (some 0) with
  accessFlags := 1537
  interfaces := #[]
  cf := some (fileOf pool5 2 #[] #[] 1537 4 #[] #[])
  fields := #[]
  methods := #[]
  instanceTypes := #[]
  staticTypes := #[]
  resolved := Array.replicate 8 none
  statics := none }

/-- the primitive byte -/
def k6 : Class := { plain "byte" none with kind := .primitive 'B', accessFlags := 0x411 }
/-- [B -/
def k7 : Class := { plain "[B" (some 0) with kind := .array 6 .byte, interfaces := #[4, 5], accessFlags := 1041 }

/-- the primitive int -/
def k8 : Class := { plain "int" none with kind := .primitive 'I', accessFlags := 0x411 }
/-- [I -/
def k9 : Class := { plain "[I" (some 0) with kind := .array 8 .int, interfaces := #[4, 5], accessFlags := 1041 }

def heap : Heap := #[]
def classes : Array Class := #[k0, k1, k2, k3, k4, k5, k6, k7, k8, k9]
def interned : List (Array UInt16 × Addr) := []
def slotsUsed : Nat := 0
def theMethod : MethodId := ⟨1, 1⟩
def args0 : Array Value := #[.int 5, .int 3, .int 1, .int 2, .int 4, .int 5]
def aboutOver (below : List Frame) : State where
  vm := { classes := classes, interned := interned.toArray }
  heap := heap
  slotsUsed := slotsUsed
  threads := #[{ frames := .invoking theMethod args0 :: below }]
def below0 : List Frame := [.native { method := ⟨0, 0⟩, args := #[] }]
def about1 : State := aboutOver below0
def p0 : Program := .bare "" "" ""
def e0 : Env := launch0.env 0 0 0
theorem w_frames : about1.frames = Frame.invoking theMethod args0 :: below0 := rfl
set_option maxRecDepth 65536 in
theorem w_args : argsFit about1.vm theMethod args0 = true := by decide +kernel
set_option maxRecDepth 65536 in
theorem w_heap : heapFits about1 = true := by decide +kernel
set_option maxRecDepth 65536 in
theorem w_runnable : about1.curStatus? = some .runnable := by decide +kernel
set_option maxRecDepth 65536 in
theorem w_alone : about1.alone = true := by decide +kernel
set_option maxRecDepth 65536 in
theorem w_named : about1.methodNamed? x = some theMethod := by decide +kernel
set_option maxRecDepth 65536 in
theorem w_hears : about1.hears theMethod below0 = true := by decide +kernel
set_option maxRecDepth 65536 in
theorem w_ripe : about1.ripe theMethod args0 below0 = true := by decide +kernel
theorem w_running : about1.status = .running := rfl
set_option maxRecDepth 65536 in
theorem w_room : about1.hasRoom e0.platform room_1 = true :=
  launch0.hasRoom_least _ room_1 (by decide +kernel) (by decide +kernel) (by decide +kernel) (by decide +kernel) (by decide +kernel) (by decide +kernel)
theorem allAtoms_all (ts : List Jvm.Cond) (a : Array Jvm.Value) (st : Jvm.State) : (allAtoms ts).before a st = ts.all (fun c => c.before a st) := by
  induction ts with
  | nil => rfl
  | cons c t ih =>
    show (Jvm.Cond.and c (allAtoms t)).before a st = _
    rw [Jvm.Cond.before_and, ih, List.all_cons]
def words1 : List Jvm.Cond := Jvm.Cond.code x code maxLocals ret :: tables_1
/-- a 'code' word, met by the world's own term for the bytes: nothing is compared byte by byte -/
theorem code_word {y : MethodName} {bytes : ByteArray} {mx : Nat} {rt : Option FieldType} {a : Array Value} {s : State} {m : MethodId} {meth : Method} {c : Code} (h1 : s.methodNamed? y = some m) (h2 : s.vm.method? m = some meth) (h3 : meth.code = some c) (h4 : c.code = bytes)
    (h5 : (c.maxLocals == mx && c.exceptionTable.isEmpty && decide (c.maxStack ≤ mostOperands) && decide (meth.sig.returnType = rt) && !meth.locks && decide (parseMethodDescriptor y.desc = some meth.sig)) = true) : (Jvm.Cond.code y bytes mx rt).before a s = true := by
  simp only [Bool.and_eq_true, beq_iff_eq, Bool.not_eq_true', decide_eq_true_eq] at h5
  obtain ⟨⟨⟨⟨⟨g1, g2⟩, g3⟩, g4⟩, g5⟩, g6⟩ := h5
  simp [Cond.before, Cond.holds, Cond.value, h1, h2, h3, h4, g1, g2, g3, g4, g5, g6]
def isCode : Jvm.Cond → Bool
  | .code _ _ _ _ => true
  | _ => false
theorem all_split {L : List Jvm.Cond} {P : Jvm.Cond → Bool} (h1 : L.all (fun c => isCode c || P c) = true) (h2 : ∀ c ∈ L.filter isCode, P c = true) : L.all P = true := by
  refine List.all_eq_true.mpr fun c hc => ?_
  have h := List.all_eq_true.mp h1 c hc
  rcases Bool.eq_false_or_eq_true (isCode c) with hi | hi
  · exact h2 c (List.mem_filter.mpr ⟨hc, hi⟩)
  · simpa [hi] using h
set_option maxRecDepth 65536 in
theorem w_c0 : (Jvm.Cond.code x code maxLocals ret).before args0 about1 = true := code_word (m := ⟨1, 1⟩) (meth := k1m1) (c := k1c1) (by decide +kernel) rfl rfl rfl (by decide +kernel)
set_option maxRecDepth 65536 in
theorem w_c1 : (Jvm.Cond.code ({ cls := "com/example/arachne/arachne/force/StressSum", name := "<init>", desc := "()V" } : Jvm.MethodName) prog_41_method_1_code (1 : Nat) (Option.none : Option Jvm.ClassFile.FieldType)).before args0 about1 = true := code_word (m := ⟨2, 0⟩) (meth := k2m0) (c := k2c0) (by decide +kernel) rfl rfl rfl (by decide +kernel)
set_option maxRecDepth 65536 in
theorem w_c2 : (Jvm.Cond.code ({ cls := "java/lang/Object", name := "<init>", desc := "()V" } : Jvm.MethodName) object_method_1_code (1 : Nat) (Option.none : Option Jvm.ClassFile.FieldType)).before args0 about1 = true := code_word (m := ⟨0, 0⟩) (meth := k0m0) (c := k0c0) (by decide +kernel) rfl rfl rfl (by decide +kernel)
set_option maxRecDepth 65536 in
theorem w_c3 : (Jvm.Cond.code ({ cls := "com/example/arachne/arachne/force/StressSum", name := "stress", desc := "()D" } : Jvm.MethodName) prog_41_method_3_code (3 : Nat) (Option.some Jvm.ClassFile.FieldType.double)).before args0 about1 = true := code_word (m := ⟨2, 2⟩) (meth := k2m2) (c := k2c2) (by decide +kernel) rfl rfl rfl (by decide +kernel)
set_option maxRecDepth 65536 in
theorem w_c4 : (Jvm.Cond.code ({ cls := "com/example/arachne/arachne/force/StressSum", name := "add", desc := "(DI)V" } : Jvm.MethodName) prog_41_method_2_code (6 : Nat) (Option.none : Option Jvm.ClassFile.FieldType)).before args0 about1 = true := code_word (m := ⟨2, 1⟩) (meth := k2m1) (c := k2c1) (by decide +kernel) rfl rfl rfl (by decide +kernel)
set_option maxRecDepth 65536 in
theorem w_c5 : (Jvm.Cond.code ({ cls := "java/lang/Math", name := "max", desc := "(DD)D" } : Jvm.MethodName) jdk_29_method_68_code (4 : Nat) (Option.some Jvm.ClassFile.FieldType.double)).before args0 about1 = true := code_word (m := ⟨3, 1⟩) (meth := k3m1) (c := k3c1) (by decide +kernel) rfl rfl rfl (by decide +kernel)
def codes1 : List Jvm.Cond := [Jvm.Cond.code x code maxLocals ret, Jvm.Cond.code ({ cls := "com/example/arachne/arachne/force/StressSum", name := "<init>", desc := "()V" } : Jvm.MethodName) prog_41_method_1_code (1 : Nat) (Option.none : Option Jvm.ClassFile.FieldType), Jvm.Cond.code ({ cls := "java/lang/Object", name := "<init>", desc := "()V" } : Jvm.MethodName) object_method_1_code (1 : Nat) (Option.none : Option Jvm.ClassFile.FieldType), Jvm.Cond.code ({ cls := "com/example/arachne/arachne/force/StressSum", name := "stress", desc := "()D" } : Jvm.MethodName) prog_41_method_3_code (3 : Nat) (Option.some Jvm.ClassFile.FieldType.double), Jvm.Cond.code ({ cls := "com/example/arachne/arachne/force/StressSum", name := "add", desc := "(DI)V" } : Jvm.MethodName) prog_41_method_2_code (6 : Nat) (Option.none : Option Jvm.ClassFile.FieldType), Jvm.Cond.code ({ cls := "java/lang/Math", name := "max", desc := "(DD)D" } : Jvm.MethodName) jdk_29_method_68_code (4 : Nat) (Option.some Jvm.ClassFile.FieldType.double)]
set_option maxRecDepth 65536 in
theorem codes_eq : words1.filter isCode = codes1 := rfl
theorem w_codes : ∀ c ∈ words1.filter isCode, c.before args0 about1 = true := by
  rw [codes_eq]
  intro c hc
  simp only [codes1, List.mem_cons, List.not_mem_nil, or_false] at hc
  rcases hc with rfl | rfl | rfl | rfl | rfl | rfl
  · exact w_c0
  · exact w_c1
  · exact w_c2
  · exact w_c3
  · exact w_c4
  · exact w_c5
set_option maxRecDepth 65536 in
theorem w_t1 : (words1.take 24).all (fun c => isCode c || c.before args0 about1) = true := by decide +kernel
set_option maxRecDepth 65536 in
theorem w_t2 : (words1.drop 24).all (fun c => isCode c || c.before args0 about1) = true := by decide +kernel
theorem w_tables : (allAtoms (Jvm.Cond.code x code maxLocals ret :: tables_1)).before args0 about1 = true := by
  rw [allAtoms_all]
  show words1.all (fun c => c.before args0 about1) = true
  refine all_split ?_ w_codes
  rw [← List.take_append_drop 24 words1, List.all_append, w_t1, w_t2]
  rfl
set_option maxRecDepth 65536 in
theorem w_case : (Jvm.Cond.and given_1 narrow_1).before args0 about1 = true := by decide +kernel
theorem w_applies : (headSpec (Jvm.Cond.code x code maxLocals ret :: tables_1) room_1).applies x e0.platform about1 = true :=
  (Spec.applies_iff w_frames).mpr ⟨w_running, w_runnable, w_alone, w_named, w_hears, w_ripe, w_room, w_tables⟩
theorem atStart : AtStart classFile x code maxLocals ret World_1 tables_1 room_1 Calls_1 rest_1 Pre_1 launch0 p0 e0 about1 theMethod args0 below0 :=
  ⟨lists_1, trivial, launch0.admits_env _ _ _, launch0.least_env, fairChoices_fair.cas, fairChoices_fair.clock, w_frames, w_args, w_heap, w_applies, trivial, trivial, w_case⟩
end start1
theorem witness_1 : WitnessClaimed_1 := ⟨start1.p0, start1.e0, start1.about1, start1.theMethod, start1.args0, start1.below0, start1.atStart⟩
end Jvm.Pilot.@@N@@
