import JvmDerived
import JvmDerived.Pilot.@@N@@Statement
import JvmDerived.Pilot.@@N@@Code
set_option linter.unusedVariables false
set_option linter.unusedSimpArgs false
namespace Own
open Jvm Jvm.ClassFile Sem Op Lib Jvm.Stand Jvm.Free Jvm.LawKit Jvm.RoadKit
def Fin (p : Program) (e : Env) (below : List Frame) (G : State) (Q : Outcome → State → Prop) : Prop :=
  ∃ s₂ o, Steps p.tables e below G s₂ ∧ s₂.status = .running ∧ Ended s₂ below o ∧ Q o s₂
def Post (s : State) (K : Option Value → Heap → List Loc → Prop) (cc ss : Nat) (o : Outcome) (U : State) : Prop :=
  ∃ v L, o = .returned v ∧ K v U.heap L ∧ FrameEnd s o U L cc ss
theorem go {p : Program} {e : Env} {below : List Frame} {G G' : State} {Q : Outcome → State → Prop} (h : ∀ t, Steps p.tables e below G' t → Steps p.tables e below G t) (k : Fin p e below G' Q) : Fin p e below G Q := by
  obtain ⟨s₂, o, h1, h2⟩ := k
  exact ⟨s₂, o, h _ h1, h2⟩
theorem start {p : Program} {e : Env} {below : List Frame} {T : State} {g g' : JFrame} {Q : Outcome → State → Prop} (q : g = g') (k : Fin p e below (T.setTop g') Q) : Fin p e below (T.setTop g) Q := q ▸ k
theorem clamp_lt {j z : Int32} {n : Nat} (hj : ¬ j < 0 ∧ j < z) (hz : z.toNatClampNeg = n) : j.toNatClampNeg < n := by
  subst hz
  have h1 := hj.1; have h2 := hj.2
  rw [Int32.lt_iff_toInt_lt] at h1 h2
  have h0 : (0 : Int32).toInt = 0 := by decide
  rw [h0] at h1
  show j.toInt.toNat < z.toInt.toNat
  omega
section A
variable {p : Program} {l : Launch} {e : Env} {R : Room} {s : State} {m : MethodId} {args : Array Value} {below : List Frame} {meth : Method} {c : Code} {T : State} {locs : List Loc} {cells slots : Nat}
theorem retAny (X : Stand p l e R s m args below meth c T locs cells slots) {v : Option Value} (hlk : meth.locks = false) (hv : meth.sig.returnType = none → v = none) {g : JFrame}
    (hstep : ∀ fs, (∀ (f : JFrame) (acts : List Action), f.method = m → f.locked = none → f.entered = [] → (doReturn e (T.setTop f) acts v).1 = T.setFrames fs) → Steps p.tables e below (T.setTop g) (T.setFrames fs))
    {K : Option Value → Heap → List Loc → Prop} {cc ss : Nat} (hc : cells ≤ cc) (hs : slots ≤ ss) (hk : K v T.heap locs) : Fin p e below (T.setTop g) (Post s K cc ss) := by
  obtain ⟨fs, hr, hrun, hended, hW, hsame⟩ := X.leave (v := v) hv hlk
  exact ⟨_, _, hstep fs hr, hrun, hended, _, _, rfl, hk, ⟨_, rfl⟩, hW, hsame.mono hc hs⟩
theorem retI (X : Stand p l e R s m args below meth c T locs cells slots) (hx : p.tables.exec = Jvm.exec) (hlk : meth.locks = false) (hret : meth.sig.returnType = some .int) {pc : Nat} {Ls : Array Slot} {z : Int32} {rest : List Value} (hd : decode c.code pc = .ok (.ireturn, 1))
    {K : Option Value → Heap → List Loc → Prop} {cc ss : Nat} (hc : cells ≤ cc) (hs : slots ≤ ss) (hk : K (some (.int z)) T.heap locs) : Fin p e below (T.setTop (mkF m pc Ls (.int z :: rest))) (Post s K cc ss) := by
  refine retAny X (v := some (.int z)) hlk (fun h => by rw [hret] at h; cases h) (fun fs hl => ?_) hc hs hk
  have hm' : T.vm.method? m = some meth := X.method'
  have hn : narrow .int (.int z) = .int z := rfl
  show Steps p.tables e below (T.setTop { method := m, pc := pc, locals := Ls, stack := _ :: rest, locked := none }) _
  jvm_step X.here [X.here.top, hx, hd, hm', hret, hn]
  first | (intro acts; rw [hl _ acts rfl rfl rfl]) | rw [hl _ _ rfl rfl rfl]
  exact Steps.refl _
theorem retN (X : Stand p l e R s m args below meth c T locs cells slots) (hx : p.tables.exec = Jvm.exec) (hlk : meth.locks = false) {t : FieldType} (hret : meth.sig.returnType = some t) (ht : t = .boolean ∨ t = .byte ∨ t = .char ∨ t = .short) {pc : Nat} {Ls : Array Slot} {z : Int32} {rest : List Value} (hd : decode c.code pc = .ok (.ireturn, 1))
    {K : Option Value → Heap → List Loc → Prop} {cc ss : Nat} (hc : cells ≤ cc) (hs : slots ≤ ss) (hk : K (some (.int (nar t z))) T.heap locs) : Fin p e below (T.setTop (mkF m pc Ls (.int z :: rest))) (Post s K cc ss) :=
  retAny X (v := some (.int (nar t z))) hlk (fun h => by rw [hret] at h; cases h) (fun fs hl => RoadKit.retN X hx hret ht hd hl) hc hs hk
theorem retJ (X : Stand p l e R s m args below meth c T locs cells slots) (hx : p.tables.exec = Jvm.exec) (hlk : meth.locks = false) (hret : meth.sig.returnType = some .long) {pc : Nat} {Ls : Array Slot} {z : Int64} {rest : List Value} (hd : decode c.code pc = .ok (.lreturn, 1))
    {K : Option Value → Heap → List Loc → Prop} {cc ss : Nat} (hc : cells ≤ cc) (hs : slots ≤ ss) (hk : K (some (.long z)) T.heap locs) : Fin p e below (T.setTop (mkF m pc Ls (.long z :: rest))) (Post s K cc ss) := by
  refine retAny X (v := some (.long z)) hlk (fun h => by rw [hret] at h; cases h) (fun fs hl => ?_) hc hs hk
  have hm' : T.vm.method? m = some meth := X.method'
  show Steps p.tables e below (T.setTop { method := m, pc := pc, locals := Ls, stack := _ :: rest, locked := none }) _
  jvm_step X.here [X.here.top, hx, hd, hm', hret, narrow]
  first | (intro acts; rw [hl _ acts rfl rfl rfl]) | rw [hl _ _ rfl rfl rfl]
  exact Steps.refl _
theorem retD (X : Stand p l e R s m args below meth c T locs cells slots) (hx : p.tables.exec = Jvm.exec) (hlk : meth.locks = false) (hret : meth.sig.returnType = some .double) {pc : Nat} {Ls : Array Slot} {z : UInt64} {rest : List Value} (hd : decode c.code pc = .ok (.dreturn, 1))
    {K : Option Value → Heap → List Loc → Prop} {cc ss : Nat} (hc : cells ≤ cc) (hs : slots ≤ ss) (hk : K (some (.double z)) T.heap locs) : Fin p e below (T.setTop (mkF m pc Ls (.double z :: rest))) (Post s K cc ss) := by
  refine retAny X (v := some (.double z)) hlk (fun h => by rw [hret] at h; cases h) (fun fs hl => ?_) hc hs hk
  have hm' : T.vm.method? m = some meth := X.method'
  show Steps p.tables e below (T.setTop { method := m, pc := pc, locals := Ls, stack := _ :: rest, locked := none }) _
  jvm_step X.here [X.here.top, hx, hd, hm', hret, narrow]
  first | (intro acts; rw [hl _ acts rfl rfl rfl]) | rw [hl _ _ rfl rfl rfl]
  exact Steps.refl _
theorem retV (X : Stand p l e R s m args below meth c T locs cells slots) (hx : p.tables.exec = Jvm.exec) (hlk : meth.locks = false) (hret : meth.sig.returnType = none) {pc : Nat} {Ls : Array Slot} (hd : decode c.code pc = .ok (.return_, 1))
    {K : Option Value → Heap → List Loc → Prop} {cc ss : Nat} (hc : cells ≤ cc) (hs : slots ≤ ss) (hk : K none T.heap locs) : Fin p e below (T.setTop (mkF m pc Ls [])) (Post s K cc ss) :=
  retAny X (v := none) hlk (fun _ => rfl) (fun fs hl => X.returnOut hx hret hd hl) hc hs hk
theorem cS {Z : State} {a0 : Array Value} {h : Heap} (X : Stand p l e R s m args below meth c T locs cells slots) (hx : p.tables.exec = Jvm.exec) (hZ : Z.Warmed39 s.vm) {own : String} {index : Nat} {y : MethodName} {bytes : ByteArray} {maxL : Nat} {ret : Option FieldType} {rm : Room} {as' : Array Value} {Q : Option Value → Heap → List Loc → Prop}
    (hown : s.vm.findClass own = some m.cls) (w1 : (Cond.methodLink own index y).before a0 Z = true) (w2 : (Cond.static y).before a0 Z = true) (w3 : (Cond.initialized y.cls).before a0 Z = true) (w4 : (Cond.code y bytes maxL ret).before a0 Z = true)
    (hy : y.cls ≠ "java/lang/invoke/MethodHandle" ∧ y.cls ≠ "java/lang/invoke/VarHandle")
    (hM : MetFree l y (head1 [Cond.code y bytes maxL ret] rm) (fun a U => a = as' ∧ Z.Warmed39 U.vm ∧ U.heap = h) (fun _ _ _ _ _ => True) (fun _ U o U' => ∃ v L, o = .returned v ∧ Q v U'.heap L ∧ FrameEnd U o U' L rm.cells rm.slots))
    (hf : rm.frames + 1 ≤ R.frames) {W : Nat} (hl : W + (maxL + 11) + rm.locals ≤ R.locals) {pc : Nat} {ls : Array Slot} {argsL rest : List Value} (hsize : ls.size = c.maxLocals) (hlen : ∀ sig, parseMethodDescriptor y.desc = some sig → argsL.length = sig.parameters.length)
    (has : argsL.toArray = as') (hW : (rest.map fun v => v.category).sum ≤ W) (hd : decode c.code pc = .ok (.invokestatic index, 3)) (eT : T.heap = h) (hcc : cells + rm.cells ≤ R.cells) (hss : slots + rm.slots ≤ R.slots) {P : Outcome → State → Prop}
    (k : ∀ T' L v, Stand p l e R s m args below meth c T' (locs ++ L) (cells + rm.cells) (slots + rm.slots) → Q v T'.heap L → Fin p e below (T'.setTop (mkF m (pc + 3) ls (v.toList ++ rest))) P) :
    Fin p e below (T.setTop (mkF m pc ls (argsL.reverse ++ rest))) P := by
  obtain ⟨v, _, ⟨T', L', k', n'⟩, -, X', ⟨L, hQ, e1, e2, e3⟩, st⟩ := Jvm.LawKit.callS X hx (y := y) hown (mvT hZ w1) (mvT hZ w2) (mvT hZ w3) (mvT hZ w4) hy (backOf (W := W) hM hZ w4 w3 hf hl) (g := mkF m pc ls (argsL.reverse ++ rest)) rfl hsize (argsL := argsL) (rest := rest) hlen rfl
    (by show 2 * 0 + _ ≤ _; omega) hd (fun _ _ => ⟨has, eT, hcc, hss⟩)
  dsimp only [Pt.U, Pt.locs, Pt.cells, Pt.slots] at X' e1 e2 e3 st hQ
  subst e1 e2 e3
  exact go st (k T' L v X' hQ)
theorem cI {Z : State} {a0 : Array Value} {h : Heap} (X : Stand p l e R s m args below meth c T locs cells slots) (hx : p.tables.exec = Jvm.exec) (hZ : Z.Warmed39 s.vm) {own : String} {index : Nat} {y : MethodName} {bytes : ByteArray} {maxL : Nat} {rm : Room} {as' : Array Value} {Q : Option Value → Heap → List Loc → Prop}
    (hy1 : y.name = "<init>") (hown : s.vm.findClass own = some m.cls) (w1 : (Cond.methodLink own index y).before a0 Z = true) (w2 : (Cond.instanceMethod y).before a0 Z = true) (w3 : (Cond.initialized y.cls).before a0 Z = true) (w4 : (Cond.code y bytes maxL none).before a0 Z = true)
    (hy : y.cls ≠ "java/lang/invoke/MethodHandle" ∧ y.cls ≠ "java/lang/invoke/VarHandle")
    (hM : MetFree l y (head1 [Cond.code y bytes maxL none] rm) (fun a U => a = as' ∧ Z.Warmed39 U.vm ∧ U.heap = h) (fun _ _ _ _ _ => True) (fun _ U o U' => ∃ v L, o = .returned v ∧ Q v U'.heap L ∧ FrameEnd U o U' L rm.cells rm.slots))
    (hf : rm.frames + 1 ≤ R.frames) {W : Nat} (hl : W + (maxL + 11) + rm.locals ≤ R.locals) {pc : Nat} {ls : Array Slot} {a : Addr} {argsL rest : List Value} (hsize : ls.size = c.maxLocals) (hlen : ∀ sig, parseMethodDescriptor y.desc = some sig → argsL.length = sig.parameters.length)
    (has : (Value.ref a :: argsL).toArray = as') (hW : (rest.map fun v => v.category).sum ≤ W) (hd : decode c.code pc = .ok (.invokespecial index, 3)) (eT : T.heap = h) (hcc : cells + rm.cells ≤ R.cells) (hss : slots + rm.slots ≤ R.slots) {P : Outcome → State → Prop}
    (k : ∀ T' L v, Stand p l e R s m args below meth c T' (locs ++ L) (cells + rm.cells) (slots + rm.slots) → Q v T'.heap L → Fin p e below (T'.setTop (mkF m (pc + 3) ls (v.toList ++ rest))) P) :
    Fin p e below (T.setTop (mkF m pc ls (argsL.reverse ++ .ref a :: rest))) P := by
  obtain ⟨v, _, ⟨T', L', k', n'⟩, -, X', ⟨L, hQ, e1, e2, e3⟩, st⟩ := X.specialBack hx (y := y) hy1 hown (mvT hZ w1) (mvT hZ w2) (mvT hZ w4) hy (backOf (W := W) hM hZ w4 w3 hf hl) (g := mkF m pc ls (argsL.reverse ++ .ref a :: rest)) rfl hsize (Steps.refl _) (a := a) (argsL := argsL) (rest := rest) hlen rfl
    (by show 2 * 0 + _ ≤ _; omega) hd (fun _ _ => ⟨has, eT, hcc, hss⟩)
  dsimp only [Pt.U, Pt.locs, Pt.cells, Pt.slots] at X' e1 e2 e3 st hQ
  subst e1 e2 e3
  exact go (fun t kt => st.trans kt) (k T' L v X' hQ)
theorem cV {Z : State} {a0 : Array Value} {h : Heap} (X : Stand p l e R s m args below meth c T locs cells slots) (hx : p.tables.exec = Jvm.exec) (hZ : Z.Warmed39 s.vm) {own C : String} {index : Nat} {y z : MethodName} {bytes : ByteArray} {maxL : Nat} {ret : Option FieldType} {rm : Room} {as' : Array Value} {Q : Option Value → Heap → List Loc → Prop}
    (hown : s.vm.findClass own = some m.cls) (w1 : (Cond.methodLink own index y).before a0 Z = true) (w2 : (Cond.declares y).before a0 Z = true) (hnf : NotFace s y) (w5 : (Cond.selects C y z).before a0 Z = true) (w6 : (Cond.instanceMethod z).before a0 Z = true) (w3 : (Cond.initialized z.cls).before a0 Z = true) (w4 : (Cond.code z bytes maxL ret).before a0 Z = true)
    (hy : y.cls ≠ "java/lang/invoke/MethodHandle" ∧ y.cls ≠ "java/lang/invoke/VarHandle")
    (hM : MetFree l z (head1 [Cond.code z bytes maxL ret] rm) (fun a U => a = as' ∧ Z.Warmed39 U.vm ∧ U.heap = h) (fun _ _ _ _ _ => True) (fun _ U o U' => ∃ v L, o = .returned v ∧ Q v U'.heap L ∧ FrameEnd U o U' L rm.cells rm.slots))
    (hf : rm.frames + 1 ≤ R.frames) {W : Nat} (hl : W + (maxL + 11) + rm.locals ≤ R.locals) {pc : Nat} {ls : Array Slot} {a : Addr} {argsL rest : List Value} (E : Exa Z h a C) (hsize : ls.size = c.maxLocals) (hlen : ∀ sig, parseMethodDescriptor y.desc = some sig → argsL.length = sig.parameters.length)
    (has : (Value.ref a :: argsL).toArray = as') (hW : (rest.map fun v => v.category).sum ≤ W) (hd : decode c.code pc = .ok (.invokevirtual index, 3)) (eT : T.heap = h) (hcc : cells + rm.cells ≤ R.cells) (hss : slots + rm.slots ≤ R.slots) {P : Outcome → State → Prop}
    (k : ∀ T' L v, Stand p l e R s m args below meth c T' (locs ++ L) (cells + rm.cells) (slots + rm.slots) → Q v T'.heap L → Fin p e below (T'.setTop (mkF m (pc + 3) ls (v.toList ++ rest))) P) :
    Fin p e below (T.setTop (mkF m pc ls (argsL.reverse ++ .ref a :: rest))) P := by
  obtain ⟨cq, kq, qa, qb, qc⟩ := isOf hZ eT E
  obtain ⟨v, _, ⟨T', L', k', n'⟩, -, X', ⟨L, hQ, e1, e2, e3⟩, st⟩ := X.virtualBack hx (y := y) (z := z) hown (mvT hZ w1) (mvT hZ w2) hnf (mvT hZ w5) (mvT hZ w6) hy (backOf (W := W) hM hZ w4 w3 hf hl) qa qc (g := mkF m pc ls (argsL.reverse ++ .ref a :: rest)) rfl hsize (Steps.refl _) (argsL := argsL) (rest := rest) hlen rfl
    (by show 2 * 0 + _ ≤ _; omega) hd (fun _ _ => ⟨has, eT, hcc, hss⟩)
  dsimp only [Pt.U, Pt.locs, Pt.cells, Pt.slots] at X' e1 e2 e3 st hQ
  subst e1 e2 e3
  exact go (fun t kt => st.trans kt) (k T' L v X' hQ)
theorem newA {Z : State} {a0 : Array Value} {h : Heap} (X : Stand p l e R s m args below meth c T locs cells slots) (hx : p.tables.exec = Jvm.exec) (hZ : Z.Warmed39 s.vm) {aty : ArrayType} (w : (Cond.arrayClass (newarray.typeOf aty)).before a0 Z = true) (eT : T.heap = h)
    {pc : Nat} {ls : Array Slot} {n : Int32} {rest : List Value} (hd : decode c.code pc = .ok (.newarray aty, 2)) (hn : ¬ n < 0) (cap : Nat) (hcap : n.toNatClampNeg ≤ cap) (hb : cap * 8 ≤ 536870912) (hc : cells + 1 ≤ R.cells) (hl : slots + cap ≤ R.slots) {P : Outcome → State → Prop}
    (k : ∀ T' h' b kA, Stand p l e R s m args below meth c T' locs (cells + 1) (slots + cap) → T'.heap = h' → Ext h h' → b = h.size → Arv Z h' b kA (newarray.typeOf aty) n [] (defaultValue (newarray.typeOf aty)) → Fin p e below (T'.setTop (mkF m (pc + 2) ls (.ref b :: rest))) P) :
    Fin p e below (T.setTop (mkF m pc ls (.int n :: rest))) P := by
  obtain ⟨T', h', kA, X', e', E', A', st⟩ := newP X hx hZ w eT (g := mkF m pc ls (.int n :: rest)) rfl hd rfl hn hcap hb hc hl
  exact go st (k T' h' _ kA X' e' E' rfl (Arv.new A' hn))
theorem stI {Z : State} {h : Heap} {a : Addr} {kA : ClassId} {z : Int32} {vs : List Value} {dv : Value} (X : Stand p l e R s m args below meth c T locs cells slots) (hx : p.tables.exec = Jvm.exec) (hZ : Z.Warmed39 s.vm) (eT : T.heap = h) (V : Arv Z h a kA .int z vs dv)
    {pc : Nat} {ls : Array Slot} {j x : Int32} {rest : List Value} (hd : decode c.code pc = .ok (.iastore, 1)) (hj : ¬ j < 0 ∧ j < z) (i : Nat) (hi : j.toNatClampNeg = i) (hlen : i < vs.length) {P : Outcome → State → Prop}
    (k : ∀ T' h', Stand p l e R s m args below meth c T' (locs ++ [⟨a, j.toNatClampNeg⟩]) cells slots → T'.heap = h' → Wr h h' a j.toNatClampNeg (.int x) → Arv Z h' a kA .int z (vs.set i (.int x)) dv → Fin p e below (T'.setTop (mkF m (pc + 1) ls rest)) P) :
    Fin p e below (T.setTop (mkF m pc ls (.int x :: .int j :: .ref a :: rest))) P := by
  obtain ⟨cl, Ar, q, S, N, H, G⟩ := V
  obtain ⟨T', h', X', e', W', st⟩ := RoadKit.stI X hx hZ eT Ar (j := j) (inb_of S hj) (g := mkF m pc ls (.int x :: .int j :: .ref a :: rest)) rfl rfl hd
  exact go st (k T' h' X' e' W' (Arv.set Ar q S N H G rfl W' i hi hlen))
theorem stJ {Z : State} {h : Heap} {a : Addr} {kA : ClassId} {z : Int32} {vs : List Value} {dv : Value} (X : Stand p l e R s m args below meth c T locs cells slots) (hx : p.tables.exec = Jvm.exec) (hZ : Z.Warmed39 s.vm) (eT : T.heap = h) (V : Arv Z h a kA .long z vs dv)
    {pc : Nat} {ls : Array Slot} {j : Int32} {x : Int64} {rest : List Value} (hd : decode c.code pc = .ok (.lastore, 1)) (hj : ¬ j < 0 ∧ j < z) (i : Nat) (hi : j.toNatClampNeg = i) (hlen : i < vs.length) {P : Outcome → State → Prop}
    (k : ∀ T' h', Stand p l e R s m args below meth c T' (locs ++ [⟨a, j.toNatClampNeg⟩]) cells slots → T'.heap = h' → Wr h h' a j.toNatClampNeg (.long x) → Arv Z h' a kA .long z (vs.set i (.long x)) dv → Fin p e below (T'.setTop (mkF m (pc + 1) ls rest)) P) :
    Fin p e below (T.setTop (mkF m pc ls (.long x :: .int j :: .ref a :: rest))) P := by
  obtain ⟨cl, Ar, q, S, N, H, G⟩ := V
  obtain ⟨T', h', X', e', W', st⟩ := RoadKit.stJ X hx hZ eT Ar (j := j) (inb_of S hj) (g := mkF m pc ls (.long x :: .int j :: .ref a :: rest)) rfl rfl hd
  exact go st (k T' h' X' e' W' (Arv.set Ar q S N H G rfl W' i hi hlen))
theorem stB {Z : State} {h : Heap} {a : Addr} {kA : ClassId} {z : Int32} {vs : List Value} {dv : Value} (X : Stand p l e R s m args below meth c T locs cells slots) (hx : p.tables.exec = Jvm.exec) (hZ : Z.Warmed39 s.vm) (eT : T.heap = h) (V : Arv Z h a kA .byte z vs dv)
    {pc : Nat} {ls : Array Slot} {j x : Int32} {rest : List Value} (hd : decode c.code pc = .ok (.bastore, 1)) (hj : ¬ j < 0 ∧ j < z) (i : Nat) (hi : j.toNatClampNeg = i) (hlen : i < vs.length) {P : Outcome → State → Prop}
    (k : ∀ T' h', Stand p l e R s m args below meth c T' (locs ++ [⟨a, j.toNatClampNeg⟩]) cells slots → T'.heap = h' → Wr h h' a j.toNatClampNeg (.int (nar .byte x)) → Arv Z h' a kA .byte z (vs.set i (.int (nar .byte x))) dv → Fin p e below (T'.setTop (mkF m (pc + 1) ls rest)) P) :
    Fin p e below (T.setTop (mkF m pc ls (.int x :: .int j :: .ref a :: rest))) P := by
  obtain ⟨cl, Ar, q, S, N, H, G⟩ := V
  obtain ⟨T', h', X', e', W', st⟩ := RoadKit.stB X hx hZ eT Ar (j := j) (inb_of S hj) (g := mkF m pc ls (.int x :: .int j :: .ref a :: rest)) rfl rfl hd
  exact go st (k T' h' X' e' W' (Arv.set Ar q S N H G (fits_nar_byte _) W' i hi hlen))
theorem stC {Z : State} {h : Heap} {a : Addr} {kA : ClassId} {z : Int32} {vs : List Value} {dv : Value} (X : Stand p l e R s m args below meth c T locs cells slots) (hx : p.tables.exec = Jvm.exec) (hZ : Z.Warmed39 s.vm) (eT : T.heap = h) (V : Arv Z h a kA .char z vs dv)
    {pc : Nat} {ls : Array Slot} {j x : Int32} {rest : List Value} (hd : decode c.code pc = .ok (.castore, 1)) (hj : ¬ j < 0 ∧ j < z) (i : Nat) (hi : j.toNatClampNeg = i) (hlen : i < vs.length) {P : Outcome → State → Prop}
    (k : ∀ T' h', Stand p l e R s m args below meth c T' (locs ++ [⟨a, j.toNatClampNeg⟩]) cells slots → T'.heap = h' → Wr h h' a j.toNatClampNeg (.int (nar .char x)) → Arv Z h' a kA .char z (vs.set i (.int (nar .char x))) dv → Fin p e below (T'.setTop (mkF m (pc + 1) ls rest)) P) :
    Fin p e below (T.setTop (mkF m pc ls (.int x :: .int j :: .ref a :: rest))) P := by
  obtain ⟨cl, Ar, q, S, N, H, G⟩ := V
  obtain ⟨T', h', X', e', W', st⟩ := RoadKit.stC X hx hZ eT Ar (j := j) (inb_of S hj) (g := mkF m pc ls (.int x :: .int j :: .ref a :: rest)) rfl rfl hd
  exact go st (k T' h' X' e' W' (Arv.set Ar q S N H G (fits_nar_char _) W' i hi hlen))
theorem alen {Z : State} {h : Heap} {a : Addr} {kA : ClassId} {ty : FieldType} {z : Int32} {vs : List Value} {dv : Value} (X : Stand p l e R s m args below meth c T locs cells slots) (hx : p.tables.exec = Jvm.exec) (hZ : Z.Warmed39 s.vm) (eT : T.heap = h) (V : Arv Z h a kA ty z vs dv)
    {pc : Nat} {ls : Array Slot} {rest : List Value} (hd : decode c.code pc = .ok (.arraylength, 1)) {P : Outcome → State → Prop} (k : Fin p e below (T.setTop (mkF m (pc + 1) ls (.int z :: rest))) P) :
    Fin p e below (T.setTop (mkF m pc ls (.ref a :: rest))) P := by
  obtain ⟨cl, Ar, q, S, N, H, G⟩ := V
  refine go (fun t kt => X.arraylength hx (by rw [eT]; exact Ar.1) (State.isArrayOf_alike hZ.alike Ar.2.1) (g := mkF m pc ls (.ref a :: rest)) rfl rfl hd t kt) ?_
  rw [len_of S N]
  exact k
theorem arv_at {Z : State} {h : Heap} {a : Addr} {kA : ClassId} {ty : FieldType} {z : Int32} {vs : List Value} {dv : Value} (V : Arv Z h a kA ty z vs dv) {j : Int32} (hj : ¬ j < 0 ∧ j < z) :
    ∃ cl, Arr Z h a cl ty ∧ ¬ (j < 0 ∨ cl.slots.size ≤ j.toNatClampNeg) ∧ cl.slots[j.toNatClampNeg]? = some (vs.getD j.toNatClampNeg dv) ∧ fits ty (vs.getD j.toNatClampNeg dv) = true := by
  obtain ⟨cl, Ar, q, S, N, H, G⟩ := V
  have hin := inb_of S hj
  have hlt : j.toNatClampNeg < cl.slots.size := Nat.lt_of_not_le fun q => hin (Or.inr q)
  exact ⟨cl, Ar, hin, H _ hlt, G _ hlt⟩
theorem ldI {Z : State} {h : Heap} {a : Addr} {kA : ClassId} {z : Int32} {vs : List Value} {dv : Value} (X : Stand p l e R s m args below meth c T locs cells slots) (hx : p.tables.exec = Jvm.exec) (hZ : Z.Warmed39 s.vm) (eT : T.heap = h) (V : Arv Z h a kA .int z vs dv)
    {pc : Nat} {ls : Array Slot} {j : Int32} {rest : List Value} (hd : decode c.code pc = .ok (.iaload, 1)) (hj : ¬ j < 0 ∧ j < z) {P : Outcome → State → Prop} (k : ∀ x, vs.getD j.toNatClampNeg dv = .int x → Fin p e below (T.setTop (mkF m (pc + 1) ls (.int x :: rest))) P) :
    Fin p e below (T.setTop (mkF m pc ls (.int j :: .ref a :: rest))) P := by
  obtain ⟨cl, Ar, hin, hat, hf⟩ := arv_at V hj
  obtain ⟨x, hx'⟩ := fit_I hf (Or.inl rfl)
  refine go (fun t kt => X.iaload hx (j := j) (v := .int x) (by rw [eT]; exact Ar.1) (State.isArrayOf_alike hZ.alike Ar.2.1) Ar.2.2 hin (by rw [hat, hx']) (g := mkF m pc ls (.int j :: .ref a :: rest)) rfl rfl hd t kt) (k x hx')
theorem ldJ {Z : State} {h : Heap} {a : Addr} {kA : ClassId} {z : Int32} {vs : List Value} {dv : Value} (X : Stand p l e R s m args below meth c T locs cells slots) (hx : p.tables.exec = Jvm.exec) (hZ : Z.Warmed39 s.vm) (eT : T.heap = h) (V : Arv Z h a kA .long z vs dv)
    {pc : Nat} {ls : Array Slot} {j : Int32} {rest : List Value} (hd : decode c.code pc = .ok (.laload, 1)) (hj : ¬ j < 0 ∧ j < z) {P : Outcome → State → Prop} (k : ∀ x, vs.getD j.toNatClampNeg dv = .long x → Fin p e below (T.setTop (mkF m (pc + 1) ls (.long x :: rest))) P) :
    Fin p e below (T.setTop (mkF m pc ls (.int j :: .ref a :: rest))) P := by
  obtain ⟨cl, Ar, hin, hat, hf⟩ := arv_at V hj
  obtain ⟨x, hx'⟩ := fit_J hf
  refine go (fun t kt => X.laload hx (j := j) (v := .long x) (by rw [eT]; exact Ar.1) (State.isArrayOf_alike hZ.alike Ar.2.1) Ar.2.2 hin (by rw [hat, hx']) (g := mkF m pc ls (.int j :: .ref a :: rest)) rfl rfl hd t kt) (k x hx')
theorem ldB {Z : State} {h : Heap} {a : Addr} {kA : ClassId} {z : Int32} {vs : List Value} {dv : Value} (X : Stand p l e R s m args below meth c T locs cells slots) (hx : p.tables.exec = Jvm.exec) (hZ : Z.Warmed39 s.vm) (eT : T.heap = h) (V : Arv Z h a kA .byte z vs dv)
    {pc : Nat} {ls : Array Slot} {j : Int32} {rest : List Value} (hd : decode c.code pc = .ok (.baload, 1)) (hj : ¬ j < 0 ∧ j < z) {P : Outcome → State → Prop} (k : ∀ x, vs.getD j.toNatClampNeg dv = .int x → Fin p e below (T.setTop (mkF m (pc + 1) ls (.int x :: rest))) P) :
    Fin p e below (T.setTop (mkF m pc ls (.int j :: .ref a :: rest))) P := by
  obtain ⟨cl, Ar, hin, hat, hf⟩ := arv_at V hj
  obtain ⟨x, hx'⟩ := fit_I hf (Or.inr (Or.inr (Or.inl rfl)))
  refine go (fun t kt => X.baloadBytes hx (j := j) (v := .int x) (by rw [eT]; exact Ar.1) (State.isArrayOf_alike hZ.alike Ar.2.1) Ar.2.2 hin (by rw [hat, hx']) (g := mkF m pc ls (.int j :: .ref a :: rest)) rfl rfl hd t kt) (k x hx')
theorem ldC {Z : State} {h : Heap} {a : Addr} {kA : ClassId} {z : Int32} {vs : List Value} {dv : Value} (X : Stand p l e R s m args below meth c T locs cells slots) (hx : p.tables.exec = Jvm.exec) (hZ : Z.Warmed39 s.vm) (eT : T.heap = h) (V : Arv Z h a kA .char z vs dv)
    {pc : Nat} {ls : Array Slot} {j : Int32} {rest : List Value} (hd : decode c.code pc = .ok (.caload, 1)) (hj : ¬ j < 0 ∧ j < z) {P : Outcome → State → Prop} (k : ∀ x, vs.getD j.toNatClampNeg dv = .int x → Fin p e below (T.setTop (mkF m (pc + 1) ls (.int x :: rest))) P) :
    Fin p e below (T.setTop (mkF m pc ls (.int j :: .ref a :: rest))) P := by
  obtain ⟨cl, Ar, hin, hat, hf⟩ := arv_at V hj
  obtain ⟨x, hx'⟩ := fit_I hf (Or.inr (Or.inr (Or.inr (Or.inl rfl))))
  refine go (fun t kt => X.caload hx (j := j) (v := .int x) (by rw [eT]; exact Ar.1) (State.isArrayOf_alike hZ.alike Ar.2.1) Ar.2.2 hin (by rw [hat, hx']) (g := mkF m pc ls (.int j :: .ref a :: rest)) rfl rfl hd t kt) (k x hx')
theorem ldR {Z : State} {h : Heap} {a : Addr} {kA : ClassId} {ty : FieldType} {z : Int32} {vs : List Value} {dv : Value} (X : Stand p l e R s m args below meth c T locs cells slots) (hx : p.tables.exec = Jvm.exec) (hZ : Z.Warmed39 s.vm) (eT : T.heap = h) (V : Arv Z h a kA ty z vs dv) (ht : ty.isReference = true)
    {pc : Nat} {ls : Array Slot} {j : Int32} {rest : List Value} (hd : decode c.code pc = .ok (.aaload, 1)) (hj : ¬ j < 0 ∧ j < z) {w : Value} (hv : vs.getD j.toNatClampNeg dv = w) {P : Outcome → State → Prop} (k : Fin p e below (T.setTop (mkF m (pc + 1) ls (w :: rest))) P) :
    Fin p e below (T.setTop (mkF m pc ls (.int j :: .ref a :: rest))) P := by
  obtain ⟨cl, Ar, hin, hat, hf⟩ := arv_at V hj
  exact go (fun t kt => X.aaload hx (j := j) (v := w) (by rw [eT]; exact Ar.1) (State.isArrayOf_alike hZ.alike Ar.2.1) ht Ar.2.2 hin (by rw [hat, hv]) (g := mkF m pc ls (.int j :: .ref a :: rest)) rfl rfl hd t kt) k
theorem ldBc {Z : State} {h : Heap} {a : Addr} {cl : Cell} (X : Stand p l e R s m args below meth c T locs cells slots) (hx : p.tables.exec = Jvm.exec) (hZ : Z.Warmed39 s.vm) (eT : T.heap = h) (A : Arr Z h a cl .byte)
    {pc : Nat} {ls : Array Slot} {j x : Int32} {rest : List Value} (hd : decode c.code pc = .ok (.baload, 1)) (hin : ¬ (j < 0 ∨ cl.slots.size ≤ j.toNatClampNeg)) (hv : cl.slots[j.toNatClampNeg]? = some (.int x)) {P : Outcome → State → Prop} (k : Fin p e below (T.setTop (mkF m (pc + 1) ls (.int x :: rest))) P) :
    Fin p e below (T.setTop (mkF m pc ls (.int j :: .ref a :: rest))) P :=
  go (fun t kt => X.baloadBytes hx (j := j) (v := .int x) (by rw [eT]; exact A.1) (State.isArrayOf_alike hZ.alike A.2.1) A.2.2 hin hv (g := mkF m pc ls (.int j :: .ref a :: rest)) rfl rfl hd t kt) k
theorem alenC {Z : State} {h : Heap} {a : Addr} {cl : Cell} {ty : FieldType} {z : Int32} (X : Stand p l e R s m args below meth c T locs cells slots) (hx : p.tables.exec = Jvm.exec) (hZ : Z.Warmed39 s.vm) (eT : T.heap = h) (A : Arr Z h a cl ty) (hz : cl.slots.size.toInt32 = z)
    {pc : Nat} {ls : Array Slot} {rest : List Value} (hd : decode c.code pc = .ok (.arraylength, 1)) {P : Outcome → State → Prop} (k : Fin p e below (T.setTop (mkF m (pc + 1) ls (.int z :: rest))) P) :
    Fin p e below (T.setTop (mkF m pc ls (.ref a :: rest))) P := by
  refine go (fun t kt => X.arraylength hx (by rw [eT]; exact A.1) (State.isArrayOf_alike hZ.alike A.2.1) (g := mkF m pc ls (.ref a :: rest)) rfl rfl hd t kt) ?_
  rw [hz]
  exact k
theorem retR (X : Stand p l e R s m args below meth c T locs cells slots) (hx : p.tables.exec = Jvm.exec) (hlk : meth.locks = false) {t : FieldType} (hret : meth.sig.returnType = some t) (ht : t.isReference = true) {pc : Nat} {Ls : Array Slot} {z : Value} (hz : z.isRef = true) {rest : List Value} (hd : decode c.code pc = .ok (.areturn, 1))
    {K : Option Value → Heap → List Loc → Prop} {cc ss : Nat} (hc : cells ≤ cc) (hs : slots ≤ ss) (hk : K (some z) T.heap locs) : Fin p e below (T.setTop (mkF m pc Ls (z :: rest))) (Post s K cc ss) := by
  refine retAny X (v := some z) hlk (fun h => by rw [hret] at h; cases h) (fun fs hl => ?_) hc hs hk
  have hm' : T.vm.method? m = some meth := X.method'
  show Steps p.tables e below (T.setTop { method := m, pc := pc, locals := Ls, stack := _ :: rest, locked := none }) _
  jvm_step X.here [X.here.top, hx, hd, hm', hret, ht, hz]
  first | (intro acts; rw [hl _ acts rfl rfl rfl]) | rw [hl _ _ rfl rfl rfl]
  exact Steps.refl _
theorem cP {Z : State} {a0 : Array Value} {h : Heap} (X : Stand p l e R s m args below meth c T locs cells slots) (hx : p.tables.exec = Jvm.exec) (hZ : Z.Warmed39 s.vm) {own C : String} {index : Nat} {y y' : MethodName} {bytes : ByteArray} {maxL : Nat} {ret : Option FieldType} {rm : Room} {as' : Array Value} {Q : Option Value → Heap → List Loc → Prop}
    (hown : s.vm.findClass own = some m.cls) (w1 : (Cond.methodLink own index y).before a0 Z = true) (w2 : (Cond.instanceMethod y).before a0 Z = true) (w5 : (Cond.privateMethod y).before a0 Z = true) (w7 : (Cond.selects C y' y').before a0 Z = true) (hcl : y'.cls = y.cls) (w3 : (Cond.initialized y.cls).before a0 Z = true) (w4 : (Cond.code y bytes maxL ret).before a0 Z = true)
    (hy : y.cls ≠ "java/lang/invoke/MethodHandle" ∧ y.cls ≠ "java/lang/invoke/VarHandle")
    (hM : MetFree l y (head1 [Cond.code y bytes maxL ret] rm) (fun a U => a = as' ∧ Z.Warmed39 U.vm ∧ U.heap = h) (fun _ _ _ _ _ => True) (fun _ U o U' => ∃ v L, o = .returned v ∧ Q v U'.heap L ∧ FrameEnd U o U' L rm.cells rm.slots))
    (hf : rm.frames + 1 ≤ R.frames) {W : Nat} (hl : W + (maxL + 11) + rm.locals ≤ R.locals) {pc : Nat} {ls : Array Slot} {a : Addr} {argsL rest : List Value} {C' : String} (E : Exa Z h a C') (hsize : ls.size = c.maxLocals) (hlen : ∀ sig, parseMethodDescriptor y.desc = some sig → argsL.length = sig.parameters.length)
    (has : (Value.ref a :: argsL).toArray = as') (hW : (rest.map fun v => v.category).sum ≤ W) (hd : decode c.code pc = .ok (.invokevirtual index, 3)) (eT : T.heap = h) (hcc : cells + rm.cells ≤ R.cells) (hss : slots + rm.slots ≤ R.slots) {P : Outcome → State → Prop}
    (k : ∀ T' L v, Stand p l e R s m args below meth c T' (locs ++ L) (cells + rm.cells) (slots + rm.slots) → Q v T'.heap L → Fin p e below (T'.setTop (mkF m (pc + 3) ls (v.toList ++ rest))) P) :
    Fin p e below (T.setTop (mkF m pc ls (argsL.reverse ++ .ref a :: rest))) P := by
  have hpr : s.PrivateAt y := Cond.privateMethod_at (mvP hZ w5 (args := #[]))
  have hsel : (Cond.selects y.cls y y).before args s = true := by
    obtain ⟨c2, r2, m2, q1, q2, q3, q4, kP, hkP, hkPi⟩ := Cond.selects_spec (mvT (args := args) hZ w7)
    exact selects_self_of_private (hcl ▸ findClass_of_methodNamed q3) hkP hkPi hpr (mvT hZ w2) hy
  obtain ⟨cq, q1, q2⟩ := E.cell
  obtain ⟨v, _, ⟨T', L', k', n'⟩, -, X', ⟨L, hQ, e1, e2, e3⟩, st⟩ := X.privateBack hx (y := y) hown (mvT hZ w1) (mvT hZ w2) hsel hpr (mvT hZ w4) hy (backOf (W := W) hM hZ w4 w3 hf hl) (g := mkF m pc ls (argsL.reverse ++ .ref a :: rest)) rfl hsize (Steps.refl _) (a := a) (by rw [eT]; exact q1) q2 (argsL := argsL) (rest := rest) hlen rfl
    (by show 2 * 0 + _ ≤ _; omega) hd (fun _ _ => ⟨has, eT, hcc, hss⟩)
  dsimp only [Pt.U, Pt.locs, Pt.cells, Pt.slots] at X' e1 e2 e3 st hQ
  subst e1 e2 e3
  exact go (fun t kt => st.trans kt) (k T' L v X' hQ)
end A
section B
variable {args : Array Value} {first s : State} {o : Option Outcome} {idx : List Nat} {a b : Term}
theorem eqR {y : Addr} (h : (Cond.eq a b).value args first o s idx = some true) (hb : b.eval args first o idx s = some (.ref y)) : a.eval args first o idx s = some (.ref y) := by
  obtain ⟨x', y', h1, h2, k1, k2⟩ := cmp_v (Or.inl h)
  cases hb.symm.trans h2
  have hx : x'.isRef = true := k2.2
  rw [h1, gotT (eq_R h1 hb hx rfl) h]
theorem eqI {y : Int32} (h : (Cond.eq a b).value args first o s idx = some true) (hb : b.eval args first o idx s = some (.int y)) : a.eval args first o idx s = some (.int y) := by
  obtain ⟨x', y', h1, h2, k1, k2⟩ := cmp_v (Or.inl h)
  cases hb.symm.trans h2
  obtain ⟨z, rfl⟩ := k2
  rw [h1, gotT (Cond.eq_ints h1 hb) h]
theorem len_at {y : Int32} (h : (Term.length a).eval args first o idx s = some (.int y)) : ∃ (x : Addr) (cell : Cell), a.eval args first o idx s = some (.ref x) ∧ s.arrayAt? x = some cell ∧ cell.slots.size < 2 ^ 31 ∧ cell.slots.size.toInt32 = y := by
  obtain ⟨b, cell, h1, h2, h3, h4⟩ := Jvm.Lib.length_spec h
  exact ⟨b, cell, h1, h2, h3, (Value.int.inj h4).symm⟩
end B
end Own
namespace Jvm.Pilot.@@N@@
open Jvm Jvm.ClassFile Sem Op Lib Jvm.Free Jvm.Stand Jvm.LawKit Jvm.RoadKit Bundle Jvm.Pilot.@@N@@.Jvm.D
def U (v : Int64) : Nat := v.toUInt64.toNat
def sb (b : Nat) : Int32 := (Int32.ofNat b).toInt8.toInt32
def WRows : List (Int32 × Nat × Nat) := [(1, 1, 8), (2, 2, 4), (4, 4, 2), (8, 8, 1)]
def Rows : List (Int32 × Int32 × Int32 × Int32 × Nat × Nat × Nat × Nat × Nat) := [(1, 32, 265, 7, 1, 8, 32, 256, 265), (2, 32, 133, 6, 2, 4, 32, 128, 133), (4, 32, 67, 4, 4, 2, 32, 64, 67), (8, 32, 34, 0, 8, 1, 32, 32, 34), (1, 24, 200, 8, 1, 8, 24, 192, 200), (2, 24, 101, 6, 2, 4, 24, 96, 101), (4, 24, 51, 4, 4, 2, 24, 48, 51), (8, 24, 26, 0, 8, 1, 24, 24, 26)]
def fN (wN uN : Nat) (f : Nat → Nat) (i : Nat) : Nat := f (i / uN) / 2 ^ (8 - wN * (i % uN + 1)) % 2 ^ wN
def SN (wN uN : Nat) (f : Nat → Nat) : Nat → Nat
  | 0 => 0
  | j + 1 => SN wN uN f j + (2 ^ wN - 1 - fN wN uN f j)
def sumTo (g : Nat → Nat) : Nat → Nat
  | 0 => 0
  | j + 1 => sumTo g j + g j
def cb (q : Int32) (k : Nat) : Nat := if k = 0 then (q.toInt % 4294967296).toNat / 256 % 256 else (q.toInt % 4294967296).toNat % 256
def bys (a b c d : Int64) (k : Nat) : Nat := U (if k < 8 then a else if k < 16 then b else if k < 24 then c else d) / 2 ^ (56 - 8 * (k % 8)) % 256
def cN (wN uN dN : Nat) (f g : Nat → Nat) (i : Nat) : Nat := if i < dN then fN wN uN f i else fN wN uN g (i - dN)
def bs (wN uN b : Nat) : Nat := sumTo (fun r => b / 2 ^ (8 - wN * (r + 1)) % 2 ^ wN) uN
theorem U_int (v : Int64) : (U v : Int) = v.toInt % 18446744073709551616 := by
  show ((v.toBitVec.toNat : Nat) : Int) = v.toBitVec.toInt % 18446744073709551616
  have h := v.toBitVec.isLt
  rw [BitVec.toInt_eq_toNat_cond]
  split <;> omega
theorem U_lt (v : Int64) : U v < 18446744073709551616 := v.toUInt64.toNat_lt
theorem bys_lt (a b c d : Int64) (k : Nat) : bys a b c d k < 256 := Nat.mod_lt _ (by decide)
theorem cb_lt (q : Int32) (k : Nat) : cb q k < 256 := by unfold cb; split <;> exact Nat.mod_lt _ (by decide)
theorem sb_int (b : Nat) (hb : b < 256) : ((sb b).toInt - b) % 256 = 0 ∧ -128 ≤ (sb b).toInt ∧ (sb b).toInt < 128 := by
  have h := c_i2b (Int32.ofNat b)
  rw [Int32.toInt_ofNat_small (by omega)] at h
  exact h
theorem sb_of (x : Int32) (b : Nat) (hb : b < 256) (h : (x.toInt - b) % 256 = 0) : x.toInt8.toInt32 = sb b := by
  have h1 := c_i2b x
  have h2 := sb_int b hb
  apply Int32.toInt_inj.mp
  omega
theorem byte_sh (v : Int64) (q : Int32) (k : Nat) (hk : q.toBitVec.toNat % 64 = k) (h0 : 0 < k) : nar .byte (((v.toUInt64 >>> (q &&& 0x3f).toInt64.toUInt64).toInt64).toInt32.toInt8.toInt32) = sb (U v / 2 ^ k % 256) := by
  show (((v.toUInt64 >>> (q &&& 0x3f).toInt64.toUInt64).toInt64).toInt32.toInt8.toInt32).toInt8.toInt32 = _
  apply sb_of _ _ (Nat.mod_lt _ (by decide))
  have h1 := c_lushr v q k hk h0
  have h2 := c_l2i ((v.toUInt64 >>> (q &&& 0x3f).toInt64.toUInt64).toInt64)
  have h3 := c_i2b ((v.toUInt64 >>> (q &&& 0x3f).toInt64.toUInt64).toInt64).toInt32
  have h4 : ((U v / 2 ^ k : Nat) : Int) = v.toInt % 18446744073709551616 / ((2 ^ k : Nat) : Int) := by rw [Int.natCast_ediv, U_int]
  rw [← h4] at h1
  omega
theorem byte_0 (v : Int64) : nar .byte (v.toInt32.toInt8.toInt32) = sb (U v / 2 ^ 0 % 256) := by
  show (v.toInt32.toInt8.toInt32).toInt8.toInt32 = _
  apply sb_of _ _ (Nat.mod_lt _ (by decide))
  have h2 := c_l2i v
  have h3 := c_i2b v.toInt32
  have h4 := U_int v
  rw [Nat.pow_zero, Nat.div_one]
  omega
theorem coef_all : ∀ t ∈ WRows, ∀ b < 256, ∀ r < t.2.2, (((sb b).toUInt32 >>> (((8 : Int32) - (t.1 * (Int32.ofNat r + (1 : Int32)))) &&& 31).toUInt32).toInt32 &&& (((1 : Int32) <<< (t.1 &&& 31)) - (1 : Int32))) = Int32.ofNat (b / 2 ^ (8 - t.2.1 * (r + 1)) % 2 ^ t.2.1) := by decide +kernel
theorem rem_all {w : Int32} {wN uN : Nat} (hw : (w, wN, uN) ∈ WRows) (i : Nat) (hi : i < 2147483648) : (Int32.ofNat i / ((8 : Int32) / w)) = Int32.ofNat (i / uN) ∧ (Int32.ofNat i - (Int32.ofNat i / ((8 : Int32) / w)) * ((8 : Int32) / w)) = Int32.ofNat (i % uN) := by
  have key : ∀ (u : Int32) (k : Nat), u.toInt = k → 0 < k → k < 9 → u ≠ -1 → Int32.ofNat i / u = Int32.ofNat (i / k) := by
    intro u k hu h0 h9 h1
    have q := (c_idiv (Int32.ofNat i) u k hu h1).1
    rw [Int32.toInt_ofNat_small (by omega)] at q
    apply Int32.toInt_inj.mp
    rw [q (by omega), Int32.toInt_ofNat_small (Nat.lt_of_le_of_lt (Nat.div_le_self _ _) (by omega))]
    rw [Int.natCast_ediv]
  have key2 : ∀ (u : Int32) (k : Nat), u.toInt = k → 0 < k → k < 9 → u ≠ -1 → Int32.ofNat i - Int32.ofNat i / u * u = Int32.ofNat (i % k) := by
    intro u k hu h0 h9 h1
    rw [key u k hu h0 h9 h1]
    have e : u = Int32.ofNat k := Int32.toInt_inj.mp (by rw [hu, Int32.toInt_ofNat_small (by omega)])
    rw [e, ← Int32.ofNat_mul, ← Int32.ofNat_sub _ _ (Nat.div_mul_le_self _ _)]
    congr 1
    have := Nat.div_add_mod i k
    rw [Nat.mul_comm] at this
    omega
  simp only [WRows, List.mem_cons, Prod.mk.injEq, List.not_mem_nil, or_false] at hw
  rcases hw with ⟨rfl, rfl, rfl⟩ | ⟨rfl, rfl, rfl⟩ | ⟨rfl, rfl, rfl⟩ | ⟨rfl, rfl, rfl⟩
  · exact ⟨key _ 8 (by decide) (by decide) (by decide) (by decide), key2 _ 8 (by decide) (by decide) (by decide) (by decide)⟩
  · exact ⟨key _ 4 (by decide) (by decide) (by decide) (by decide), key2 _ 4 (by decide) (by decide) (by decide) (by decide)⟩
  · exact ⟨key _ 2 (by decide) (by decide) (by decide) (by decide), key2 _ 2 (by decide) (by decide) (by decide) (by decide)⟩
  · exact ⟨key _ 1 (by decide) (by decide) (by decide) (by decide), key2 _ 1 (by decide) (by decide) (by decide) (by decide)⟩
theorem fN_le (wN uN : Nat) (f : Nat → Nat) (i : Nat) : fN wN uN f i ≤ 2 ^ wN - 1 := by
  have := Nat.mod_lt (f (i / uN) / 2 ^ (8 - wN * (i % uN + 1))) (Nat.two_pow_pos wN)
  unfold fN; omega
theorem SN_sum (wN uN : Nat) (f : Nat → Nat) (j : Nat) : SN wN uN f j + sumTo (fN wN uN f) j = j * (2 ^ wN - 1) := by
  induction j with
  | zero => simp [SN, sumTo]
  | succ j ih =>
    have h := fN_le wN uN f j
    rw [SN, sumTo, Nat.add_mul, Nat.one_mul, ← ih]
    omega
theorem SN_step (wN uN : Nat) (f : Nat → Nat) (j : Nat) : Int32.ofNat (SN wN uN f j) + (Int32.ofNat (2 ^ wN - 1) - Int32.ofNat (fN wN uN f j)) = Int32.ofNat (SN wN uN f (j + 1)) := by
  rw [SN, Int32.ofNat_add, Int32.ofNat_sub _ _ (fN_le wN uN f j)]
theorem and_step (k c r m M : Nat) (hc : c < 2 ^ k) (hm : m < 2 ^ k) : (c + 2 ^ k * r) &&& (m + 2 ^ k * M) = (c &&& m) + 2 ^ k * (r &&& M) := by
  have h1 := Nat.and_mod_two_pow (a := c + 2 ^ k * r) (b := m + 2 ^ k * M) (n := k)
  have h2 := Nat.and_div_two_pow (a := c + 2 ^ k * r) (b := m + 2 ^ k * M) (n := k)
  rw [Nat.add_mul_mod_self_left, Nat.add_mul_mod_self_left, Nat.mod_eq_of_lt hc, Nat.mod_eq_of_lt hm] at h1
  rw [Nat.add_mul_div_left _ _ (Nat.two_pow_pos k), Nat.add_mul_div_left _ _ (Nat.two_pow_pos k), Nat.div_eq_of_lt hc, Nat.div_eq_of_lt hm, Nat.zero_add, Nat.zero_add] at h2
  rw [← h1, ← h2]
  exact (Nat.mod_add_div _ _).symm
theorem and_low (x m t : Nat) (hm : m < 2 ^ t) : x &&& m = (x % 2 ^ t) &&& m := by
  have h := Nat.and_mod_two_pow (a := x) (b := m) (n := t)
  rw [Nat.mod_eq_of_lt hm] at h
  rw [← h]
  exact (Nat.mod_eq_of_lt (Nat.lt_of_le_of_lt Nat.and_le_right hm)).symm
def nb (k : Nat) : List Nat → Nat
  | [] => 0
  | c :: cs => c + 2 ^ k * nb k cs
def mks (k m : Nat) : Nat → Nat
  | 0 => 0
  | n + 1 => m + 2 ^ k * mks k m n
theorem lanes (k t m : Nat) (ht : t ≤ k) (hm : m < 2 ^ (k - t)) (cs : List Nat) (hcs : ∀ c ∈ cs, c < 2 ^ k) : (nb k cs &&& mks k m cs.length) + (nb k cs / 2 ^ t &&& mks k m cs.length) = nb k (cs.map fun c => (c &&& m) + (c / 2 ^ t &&& m)) := by
  have hmk : m < 2 ^ k := Nat.lt_of_lt_of_le hm (Nat.pow_le_pow_right (by decide) (Nat.sub_le _ _))
  have e2 : (2 : Nat) ^ k = 2 ^ t * 2 ^ (k - t) := by rw [← Nat.pow_add]; congr 1; omega
  induction cs with
  | nil => simp [nb, mks]
  | cons c cs ih =>
    have hc := hcs c (List.mem_cons_self ..)
    have ih := ih (fun x hx => hcs x (List.mem_cons_of_mem _ hx))
    simp only [nb, List.length_cons, mks, List.map_cons]
    rw [and_step k c _ m _ hc hmk]
    have e1 : (c + 2 ^ k * nb k cs) / 2 ^ t = (c / 2 ^ t + 2 ^ (k - t) * (nb k cs % 2 ^ t)) + 2 ^ k * (nb k cs / 2 ^ t) := by
      rw [e2, Nat.mul_assoc, Nat.add_mul_div_left _ _ (Nat.two_pow_pos t), Nat.add_assoc]
      congr 1
      rw [show 2 ^ t * 2 ^ (k - t) * (nb k cs / 2 ^ t) = 2 ^ (k - t) * (2 ^ t * (nb k cs / 2 ^ t)) by rw [Nat.mul_comm (2 ^ t), Nat.mul_assoc], ← Nat.mul_add, Nat.mod_add_div]
    have hd : c / 2 ^ t < 2 ^ (k - t) := Nat.div_lt_of_lt_mul (by rw [← e2]; exact hc)
    have hlow : c / 2 ^ t + 2 ^ (k - t) * (nb k cs % 2 ^ t) < 2 ^ k := by
      have h3 := Nat.mod_lt (nb k cs) (Nat.two_pow_pos t)
      have h4 : 2 ^ (k - t) * (nb k cs % 2 ^ t + 1) ≤ 2 ^ (k - t) * 2 ^ t := Nat.mul_le_mul_left _ h3
      rw [e2, Nat.mul_comm (2 ^ t)]
      rw [Nat.mul_add, Nat.mul_one] at h4
      omega
    rw [e1, and_step k _ _ m _ hlow hmk, and_low (c / 2 ^ t + _) m (k - t) hm, Nat.add_mul_mod_self_left, Nat.mod_eq_of_lt hd, ← ih, Nat.mul_add]
    omega
theorem nb_lt (k : Nat) (cs : List Nat) (h : ∀ c ∈ cs, c < 2 ^ k) : nb k cs < 2 ^ (k * cs.length) := by
  induction cs with
  | nil => simp [nb]
  | cons c cs ih =>
    have hc := h c (List.mem_cons_self ..)
    have ih := ih (fun x hx => h x (List.mem_cons_of_mem _ hx))
    simp only [nb, List.length_cons]
    rw [Nat.mul_add, Nat.mul_one, Nat.pow_add, Nat.mul_comm (2 ^ (k * cs.length))]
    have : 2 ^ k * (nb k cs + 1) ≤ 2 ^ k * 2 ^ (k * cs.length) := Nat.mul_le_mul_left _ ih
    rw [Nat.mul_add, Nat.mul_one] at this
    omega
theorem U_and (x y : Int64) : U (x &&& y) = U x &&& U y := UInt64.toNat_and ..
theorem U_add (x y : Int64) : U (x + y) = (U x + U y) % 18446744073709551616 := UInt64.toNat_add ..
theorem U_shr (x : Int64) (q : Int32) (k : Nat) (hk : q.toBitVec.toNat % 64 = k) (h0 : 0 < k) : U ((x.toUInt64 >>> (q &&& 0x3f).toInt64.toUInt64).toInt64) = U x / 2 ^ k := by
  have h1 := c_lushr x q k hk h0
  have h2 := U_int ((x.toUInt64 >>> (q &&& 0x3f).toInt64.toUInt64).toInt64)
  have h3 : ((U x / 2 ^ k : Nat) : Int) = x.toInt % 18446744073709551616 / ((2 ^ k : Nat) : Int) := by rw [Int.natCast_ediv, U_int]
  have h4 := U_lt x
  have h5 := Nat.div_le_self (U x) (2 ^ k)
  rw [← h3] at h1
  generalize U x / 2 ^ k = Q at *
  omega
def Sw (q : Int32) (M y : Int64) : Int64 := (y &&& M) + (((y).toUInt64 >>> (q &&& 0x3f).toInt64.toUInt64).toInt64 &&& M)
theorem Sw_nb (q : Int32) (M y : Int64) (k t m : Nat) (hk : q.toBitVec.toNat % 64 = t) (h0 : 0 < t) (ht : t ≤ k) (hm : m < 2 ^ (k - t)) (cs : List Nat) (hM : U M = mks k m cs.length) (hl : k * cs.length = 64) (hcs : ∀ c ∈ cs, c < 2 ^ k) (hy : U y = nb k cs)
    (hg : ∀ c < 2 ^ k, (c &&& m) + (c / 2 ^ t &&& m) < 2 ^ k) : U (Sw q M y) = nb k (cs.map fun c => (c &&& m) + (c / 2 ^ t &&& m)) := by
  unfold Sw
  rw [U_add, U_and, U_and, U_shr y q t hk h0, hM, hy, lanes k t m ht hm cs hcs]
  apply Nat.mod_eq_of_lt
  have := nb_lt k (cs.map fun c => (c &&& m) + (c / 2 ^ t &&& m)) (by intro c hc; obtain ⟨x, hx, rfl⟩ := List.mem_map.mp hc; exact hg x (hcs x hx))
  rw [List.length_map, hl] at this
  exact this
def S1 (y : Int64) : Int64 := (y &&& (6148914691236517205 : Int64)) + (((y).toUInt64 >>> ((1 : Int32) &&& 0x3f).toInt64.toUInt64).toInt64 &&& (6148914691236517205 : Int64))
def S2 (y : Int64) : Int64 := (y &&& (3689348814741910323 : Int64)) + (((y).toUInt64 >>> ((2 : Int32) &&& 0x3f).toInt64.toUInt64).toInt64 &&& (3689348814741910323 : Int64))
def S4 (y : Int64) : Int64 := (y &&& (1085102592571150095 : Int64)) + (((y).toUInt64 >>> ((4 : Int32) &&& 0x3f).toInt64.toUInt64).toInt64 &&& (1085102592571150095 : Int64))
def S8 (y : Int64) : Int64 := (y &&& (71777214294589695 : Int64)) + (((y).toUInt64 >>> ((8 : Int32) &&& 0x3f).toInt64.toUInt64).toInt64 &&& (71777214294589695 : Int64))
def S16 (y : Int64) : Int64 := (y &&& (281470681808895 : Int64)) + (((y).toUInt64 >>> ((16 : Int32) &&& 0x3f).toInt64.toUInt64).toInt64 &&& (281470681808895 : Int64))
def S32 (y : Int64) : Int64 := (y &&& (4294967295 : Int64)) + ((y).toUInt64 >>> ((32 : Int32) &&& 0x3f).toInt64.toUInt64).toInt64
def g1 (c : Nat) : Nat := (c &&& 85) + (c / 2 ^ 1 &&& 85)
def g2 (c : Nat) : Nat := (c &&& 51) + (c / 2 ^ 2 &&& 51)
def g4 (c : Nat) : Nat := (c &&& 15) + (c / 2 ^ 4 &&& 15)
theorem S1_nb (y : Int64) (cs : List Nat) (hl : cs.length = 8) (hcs : ∀ c ∈ cs, c < 2 ^ 8) (hy : U y = nb 8 cs) : U (S1 y) = nb 8 (cs.map g1) := Sw_nb 1 _ y 8 1 85 (by decide) (by decide) (by decide) (by decide) cs (by rw [hl]; decide +kernel) (by rw [hl]) hcs hy (by decide +kernel)
theorem S2_nb (y : Int64) (cs : List Nat) (hl : cs.length = 8) (hcs : ∀ c ∈ cs, c < 2 ^ 8) (hy : U y = nb 8 cs) : U (S2 y) = nb 8 (cs.map g2) := Sw_nb 2 _ y 8 2 51 (by decide) (by decide) (by decide) (by decide) cs (by rw [hl]; decide +kernel) (by rw [hl]) hcs hy (by decide +kernel)
theorem S4_nb (y : Int64) (cs : List Nat) (hl : cs.length = 8) (hcs : ∀ c ∈ cs, c < 2 ^ 8) (hy : U y = nb 8 cs) : U (S4 y) = nb 8 (cs.map g4) := Sw_nb 4 _ y 8 4 15 (by decide) (by decide) (by decide) (by decide) cs (by rw [hl]; decide +kernel) (by rw [hl]) hcs hy (by decide +kernel)
theorem and255 (c : Nat) : c &&& 255 = c % 256 := Nat.and_two_pow_sub_one_eq_mod c 8
theorem and65535 (c : Nat) : c &&& 65535 = c % 65536 := Nat.and_two_pow_sub_one_eq_mod c 16
theorem fs_end (y : Int64) (c0 c1 c2 c3 c4 c5 c6 c7 : Nat) (h : ∀ c ∈ [c0, c1, c2, c3, c4, c5, c6, c7], c < 2 ^ 8) (hy : U y = nb 8 [c0, c1, c2, c3, c4, c5, c6, c7]) : (S32 (S16 (S8 y))).toInt32 = Int32.ofNat (c0 + c1 + c2 + c3 + c4 + c5 + c6 + c7) := by
  simp only [List.mem_cons, List.not_mem_nil, or_false, forall_eq_or_imp, forall_eq] at h
  obtain ⟨b0, b1, b2, b3, b4, b5, b6, b7⟩ := h
  have e8 : U (S8 y) = nb 16 [c0 + c1, c2 + c3, c4 + c5, c6 + c7] := by
    have q := Sw_nb 8 71777214294589695 y 16 8 255 (by decide) (by decide) (by decide) (by decide) [c0 + 256 * c1, c2 + 256 * c3, c4 + 256 * c5, c6 + 256 * c7] (show U 71777214294589695 = mks 16 255 4 by decide +kernel) (by rfl) (by simp only [List.mem_cons, List.not_mem_nil, or_false, forall_eq_or_imp, forall_eq]; omega) (by rw [hy]; simp only [nb]; omega) (by intro c hc; rw [and255, and255]; omega)
    refine q.trans ?_
    simp only [List.map_cons, List.map_nil, and255]
    simp only [nb]
    omega
  have e16 : U (S16 (S8 y)) = nb 32 [c0 + c1 + (c2 + c3), c4 + c5 + (c6 + c7)] := by
    have q := Sw_nb 16 281470681808895 (S8 y) 32 16 65535 (by decide) (by decide) (by decide) (by decide) [(c0 + c1) + 65536 * (c2 + c3), (c4 + c5) + 65536 * (c6 + c7)] (show U 281470681808895 = mks 32 65535 2 by decide +kernel) (by rfl) (by simp only [List.mem_cons, List.not_mem_nil, or_false, forall_eq_or_imp, forall_eq]; omega) (by rw [e8]; simp only [nb]; omega) (by intro c hc; rw [and65535, and65535]; omega)
    refine q.trans ?_
    simp only [List.map_cons, List.map_nil, and65535]
    simp only [nb]
    omega
  have e32 : U (S32 (S16 (S8 y))) = c0 + c1 + c2 + c3 + c4 + c5 + c6 + c7 := by
    unfold S32
    rw [U_add, U_and, U_shr _ 32 32 (by decide) (by decide), e16, show U 4294967295 = 2 ^ 32 - 1 by decide, Nat.and_two_pow_sub_one_eq_mod]
    simp only [nb]
    omega
  have h1 := c_l2i (S32 (S16 (S8 y)))
  have h2 := U_int (S32 (S16 (S8 y)))
  have b1' := (S32 (S16 (S8 y))).toInt32.toInt_lt; have b2' := (S32 (S16 (S8 y))).toInt32.le_toInt
  rw [e32] at h2
  apply Int32.toInt_inj.mp
  rw [Int32.toInt_ofNat_small (by omega)]
  omega
def F_fs (x : Int64) (w : Int32) : Int32 := if w = (1 : Int32) then (if (2 : Int32) < w then (if (4 : Int32) < w then (S32 (S16 (S8 (S1 x)))).toInt32 else (S32 (S16 (S8 (S4 (S1 x))))).toInt32) else (if (4 : Int32) < w then (S32 (S16 (S8 (S2 (S1 x))))).toInt32 else (S32 (S16 (S8 (S4 (S2 (S1 x)))))).toInt32)) else (if (2 : Int32) < w then (if (4 : Int32) < w then (S32 (S16 (S8 x))).toInt32 else (S32 (S16 (S8 (S4 x)))).toInt32) else (if (4 : Int32) < w then (S32 (S16 (S8 (S2 x)))).toInt32 else (S32 (S16 (S8 (S4 (S2 x))))).toInt32))
def LSN (wN uN V : Nat) : Nat := bs wN uN (V / 2 ^ 0 % 256) + bs wN uN (V / 2 ^ 8 % 256) + bs wN uN (V / 2 ^ 16 % 256) + bs wN uN (V / 2 ^ 24 % 256) + bs wN uN (V / 2 ^ 32 % 256) + bs wN uN (V / 2 ^ 40 % 256) + bs wN uN (V / 2 ^ 48 % 256) + bs wN uN (V / 2 ^ 56 % 256)
theorem lanes_of (V : Nat) (h : V < 18446744073709551616) : V = nb 8 [V / 2 ^ 0 % 256, V / 2 ^ 8 % 256, V / 2 ^ 16 % 256, V / 2 ^ 24 % 256, V / 2 ^ 32 % 256, V / 2 ^ 40 % 256, V / 2 ^ 48 % 256, V / 2 ^ 56 % 256] := by
  simp only [nb]
  omega
theorem lane_lt (V : Nat) : ∀ c ∈ [V / 2 ^ 0 % 256, V / 2 ^ 8 % 256, V / 2 ^ 16 % 256, V / 2 ^ 24 % 256, V / 2 ^ 32 % 256, V / 2 ^ 40 % 256, V / 2 ^ 48 % 256, V / 2 ^ 56 % 256], c < 2 ^ 8 := by
  simp only [List.mem_cons, List.not_mem_nil, or_false, forall_eq_or_imp, forall_eq]
  omega
theorem map_lt {g : Nat → Nat} (hg : ∀ c < 2 ^ 8, g c < 2 ^ 8) {cs : List Nat} (h : ∀ c ∈ cs, c < 2 ^ 8) : ∀ c ∈ cs.map g, c < 2 ^ 8 := by
  intro c hc; obtain ⟨x, hx, rfl⟩ := List.mem_map.mp hc; exact hg x (h x hx)
theorem g1_lt : ∀ c < 2 ^ 8, g1 c < 2 ^ 8 := by decide +kernel
theorem g2_lt : ∀ c < 2 ^ 8, g2 c < 2 ^ 8 := by decide +kernel
theorem g4_lt : ∀ c < 2 ^ 8, g4 c < 2 ^ 8 := by decide +kernel
theorem bs1 : ∀ c < 2 ^ 8, g4 (g2 (g1 c)) = bs 1 8 c := by decide +kernel
theorem bs2 : ∀ c < 2 ^ 8, g4 (g2 c) = bs 2 4 c := by decide +kernel
theorem bs4 : ∀ c < 2 ^ 8, g4 c = bs 4 2 c := by decide +kernel
theorem bs8 : ∀ c < 2 ^ 8, c = bs 8 1 c := by decide +kernel
theorem fs_eq {w : Int32} {wN uN : Nat} (hw : (w, wN, uN) ∈ WRows) (x : Int64) : F_fs x w = Int32.ofNat (LSN wN uN (U x)) := by
  have hl := lane_lt (U x)
  have e0 := lanes_of (U x) (U_lt x)
  have hb := hl
  simp only [List.mem_cons, List.not_mem_nil, or_false, forall_eq_or_imp, forall_eq] at hb
  obtain ⟨b0, b1, b2, b3, b4, b5, b6, b7⟩ := hb
  simp only [WRows, List.mem_cons, Prod.mk.injEq, List.not_mem_nil, or_false] at hw
  unfold LSN
  rcases hw with ⟨rfl, rfl, rfl⟩ | ⟨rfl, rfl, rfl⟩ | ⟨rfl, rfl, rfl⟩ | ⟨rfl, rfl, rfl⟩
  · rw [F_fs, if_pos rfl, if_neg (by decide), if_neg (by decide)]
    have e1 := S1_nb x _ rfl hl e0
    have e2 := S2_nb _ _ rfl (map_lt g1_lt hl) e1
    have e3 := S4_nb _ _ rfl (map_lt g2_lt (map_lt g1_lt hl)) e2
    refine (fs_end _ _ _ _ _ _ _ _ _ (map_lt g4_lt (map_lt g2_lt (map_lt g1_lt hl))) e3).trans ?_
    rw [bs1 _ b0, bs1 _ b1, bs1 _ b2, bs1 _ b3, bs1 _ b4, bs1 _ b5, bs1 _ b6, bs1 _ b7]
  · rw [F_fs, if_neg (by decide), if_neg (by decide), if_neg (by decide)]
    have e2 := S2_nb x _ rfl hl e0
    have e3 := S4_nb _ _ rfl (map_lt g2_lt hl) e2
    refine (fs_end _ _ _ _ _ _ _ _ _ (map_lt g4_lt (map_lt g2_lt hl)) e3).trans ?_
    rw [bs2 _ b0, bs2 _ b1, bs2 _ b2, bs2 _ b3, bs2 _ b4, bs2 _ b5, bs2 _ b6, bs2 _ b7]
  · rw [F_fs, if_neg (by decide), if_pos (by decide), if_neg (by decide)]
    have e3 := S4_nb x _ rfl hl e0
    refine (fs_end _ _ _ _ _ _ _ _ _ (map_lt g4_lt hl) e3).trans ?_
    rw [bs4 _ b0, bs4 _ b1, bs4 _ b2, bs4 _ b3, bs4 _ b4, bs4 _ b5, bs4 _ b6, bs4 _ b7]
  · rw [F_fs, if_neg (by decide), if_pos (by decide), if_pos (by decide)]
    refine (fs_end _ _ _ _ _ _ _ _ _ hl e0).trans ?_
    rw [← bs8 _ b0, ← bs8 _ b1, ← bs8 _ b2, ← bs8 _ b3, ← bs8 _ b4, ← bs8 _ b5, ← bs8 _ b6, ← bs8 _ b7]
theorem sum_blk (wN uN : Nat) (hu : (wN, uN) ∈ [(1, 8), (2, 4), (4, 2), (8, 1)]) (f : Nat → Nat) (K : Nat) : sumTo (fN wN uN f) (uN * K) = sumTo (fun k => bs wN uN (f k)) K := by
  induction K with
  | zero => rfl
  | succ K ih =>
    rw [sumTo, ← ih]
    simp only [List.mem_cons, Prod.mk.injEq, List.not_mem_nil, or_false] at hu
    rcases hu with ⟨rfl, rfl⟩ | ⟨rfl, rfl⟩ | ⟨rfl, rfl⟩ | ⟨rfl, rfl⟩
    · rw [Nat.mul_add]
      simp only [Nat.mul_one, sumTo, bs, fN, show (8 * K + 1) / 8 = K by omega, show (8 * K + 2) / 8 = K by omega, show (8 * K + 3) / 8 = K by omega, show (8 * K + 4) / 8 = K by omega, show (8 * K + 5) / 8 = K by omega, show (8 * K + 6) / 8 = K by omega, show (8 * K + 7) / 8 = K by omega, show (8 * K) / 8 = K by omega, show (8 * K) % 8 = 0 by omega, show (8 * K + 1) % 8 = 1 by omega, show (8 * K + 2) % 8 = 2 by omega, show (8 * K + 3) % 8 = 3 by omega, show (8 * K + 4) % 8 = 4 by omega, show (8 * K + 5) % 8 = 5 by omega, show (8 * K + 6) % 8 = 6 by omega, show (8 * K + 7) % 8 = 7 by omega, Nat.add_assoc, Nat.zero_add]
    · rw [Nat.mul_add]
      simp only [Nat.mul_one, sumTo, bs, fN, show (4 * K + 1) / 4 = K by omega, show (4 * K + 2) / 4 = K by omega, show (4 * K + 3) / 4 = K by omega, show (4 * K) / 4 = K by omega, show (4 * K) % 4 = 0 by omega, show (4 * K + 1) % 4 = 1 by omega, show (4 * K + 2) % 4 = 2 by omega, show (4 * K + 3) % 4 = 3 by omega, Nat.add_assoc, Nat.zero_add]
    · rw [Nat.mul_add]
      simp only [Nat.mul_one, sumTo, bs, fN, show (2 * K + 1) / 2 = K by omega, show (2 * K) / 2 = K by omega, show (2 * K) % 2 = 0 by omega, show (2 * K + 1) % 2 = 1 by omega, Nat.add_assoc, Nat.zero_add]
    · rw [Nat.mul_add]
      simp only [Nat.mul_one, sumTo, bs, fN, show (1 * K) / 1 = K by omega, show (1 * K) % 1 = 0 by omega, Nat.add_assoc, Nat.zero_add]
theorem sum_8 (wN uN : Nat) (a b c d : Int64) : sumTo (fun k => bs wN uN (bys a b c d k)) 24 = LSN wN uN (U a) + LSN wN uN (U b) + LSN wN uN (U c) ∧ sumTo (fun k => bs wN uN (bys a b c d k)) 32 = LSN wN uN (U a) + LSN wN uN (U b) + LSN wN uN (U c) + LSN wN uN (U d) := by
  have h24 : sumTo (fun k => bs wN uN (bys a b c d k)) 24 = LSN wN uN (U a) + LSN wN uN (U b) + LSN wN uN (U c) := by
    simp only [sumTo, bys, LSN, Nat.reduceLT, Nat.reduceMod, Nat.reduceMul, Nat.reduceSub, if_true, if_false]
    omega
  refine ⟨h24, ?_⟩
  show sumTo (fun k => bs wN uN (bys a b c d k)) (24 + 8) = _
  have e : ∀ g : Nat → Nat, sumTo g (24 + 8) = sumTo g 24 + g 24 + g 25 + g 26 + g 27 + g 28 + g 29 + g 30 + g 31 := fun g => rfl
  rw [e, h24]
  simp only [bys, LSN, Nat.reduceLT, Nat.reduceMod, Nat.reduceMul, Nat.reduceSub, if_true, if_false]
  omega
def sum4 (N : Nat) (wN uN : Nat) (a b c d : Int64) : Nat := LSN wN uN (U a) + LSN wN uN (U b) + LSN wN uN (U c) + (if N = 32 then LSN wN uN (U d) else 0)
theorem row_u : ∀ t ∈ Rows, (t.2.2.2.2.1, t.2.2.2.2.2.1) ∈ [(1, 8), (2, 4), (4, 2), (8, 1)] ∧ (t.1, t.2.2.2.2.1, t.2.2.2.2.2.1) ∈ WRows ∧ t.2.2.2.2.2.2.2.1 = t.2.2.2.2.2.1 * t.2.2.2.2.2.2.1 ∧ (t.2.2.2.2.2.2.1 = 24 ∨ t.2.2.2.2.2.2.1 = 32) := by decide
theorem ck_eq {w n p_ ls : Int32} {wN uN N dN pN : Nat} (hP : (w, n, p_, ls, wN, uN, N, dN, pN) ∈ Rows) (a b c d : Int64) : Int32.ofNat dN * Int32.ofNat (2 ^ wN - 1) - Int32.ofNat (sum4 N wN uN a b c d) = Int32.ofNat (SN wN uN (bys a b c d) dN) := by
  obtain ⟨h1, h2, h3, h4⟩ := row_u _ hP
  simp only at h1 h2 h3 h4
  have hs := SN_sum wN uN (bys a b c d) dN
  have hb : sumTo (fN wN uN (bys a b c d)) dN = sum4 N wN uN a b c d := by
    rw [h3, sum_blk wN uN h1]
    rcases h4 with rfl | rfl
    · rw [(sum_8 wN uN a b c d).1]; rfl
    · rw [(sum_8 wN uN a b c d).2]; rfl
  rw [hb] at hs
  rw [← Int32.ofNat_mul, ← Int32.ofNat_sub _ _ (by omega)]
  congr 1
  omega
def F_x (v : Int64) (pos w max : Int32) : Int32 := (((((v).toUInt64 >>> ((((64 : Int32) - (pos &&& (63 : Int32))) - w) &&& 0x3f).toInt64.toUInt64).toInt64) &&& (max).toInt64)).toInt32
def F_li (pos : Int32) : Int32 := ((pos).toUInt32 >>> ((6 : Int32) &&& 31).toUInt32).toInt32
def F_ck (cksm w max i dg : Int32) : Int32 := ((((cksm).toUInt32 >>> (((16 : Int32) - (w * ((i - dg) + (1 : Int32)))) &&& 31).toUInt32).toInt32) &&& max)
def F_exp (a b c d : Int64) (w max dg cksm i : Int32) : Int32 := if i < dg then (if F_li (w * i) = (0 : Int32) then F_x a (w * i) w max else if F_li (w * i) = (1 : Int32) then F_x b (w * i) w max else if F_li (w * i) = (2 : Int32) then F_x c (w * i) w max else F_x d (w * i) w max) else F_ck cksm w max i dg
theorem sh_all : ∀ s < 64, (Int32.ofNat s &&& 0x3f).toInt64.toUInt64.toNat % 64 = s := by decide +kernel
theorem sh_all32 : ∀ s < 32, (Int32.ofNat s &&& 31).toUInt32.toNat % 32 = s := by decide +kernel
theorem U_shr' (x : Int64) (s : Nat) (hs : s < 64) : U ((x.toUInt64 >>> (Int32.ofNat s &&& 0x3f).toInt64.toUInt64).toInt64) = U x / 2 ^ s := by
  show (x.toUInt64 >>> (Int32.ofNat s &&& 0x3f).toInt64.toUInt64).toNat = _
  rw [UInt64.toNat_shiftRight, sh_all s hs, Nat.shiftRight_eq_div_pow]
  rfl
theorem mod_low (x q w : Nat) (h : q + w ≤ 8) : x % 256 / 2 ^ q % 2 ^ w = x / 2 ^ q % 2 ^ w := by
  rw [show 256 = 2 ^ q * 2 ^ (8 - q) by rw [← Nat.pow_add, show q + (8 - q) = 8 by omega], Nat.mod_mul_right_div_self]
  exact Nat.mod_mod_of_dvd _ (Nat.pow_dvd_pow 2 (by omega))
theorem mod_low16 (x q w : Nat) (h : q + w ≤ 16) : x % 65536 / 2 ^ q % 2 ^ w = x / 2 ^ q % 2 ^ w := by
  rw [show 65536 = 2 ^ q * 2 ^ (16 - q) by rw [← Nat.pow_add, show q + (16 - q) = 16 by omega], Nat.mod_mul_right_div_self]
  exact Nat.mod_mod_of_dvd _ (Nat.pow_dvd_pow 2 (by omega))
theorem pos_all : ∀ t ∈ WRows, ∀ i < 32 * t.2.2, F_li (t.1 * Int32.ofNat i) = Int32.ofNat (i / t.2.2 / 8) ∧ (((64 : Int32) - ((t.1 * Int32.ofNat i) &&& (63 : Int32))) - t.1) = Int32.ofNat (56 - 8 * (i / t.2.2 % 8) + (8 - t.2.1 * (i % t.2.2 + 1))) ∧ (56 - 8 * (i / t.2.2 % 8) + (8 - t.2.1 * (i % t.2.2 + 1))) < 64 ∧ (8 - t.2.1 * (i % t.2.2 + 1)) + t.2.1 ≤ 8 := by decide +kernel
theorem mask_all : ∀ t ∈ WRows, U (Int32.ofNat (2 ^ t.2.1 - 1)).toInt64 = 2 ^ t.2.1 - 1 ∧ (Int32.ofNat (2 ^ t.2.1 - 1)).toUInt32.toNat = 2 ^ t.2.1 - 1 ∧ t.2.1 ≤ 8 := by decide +kernel
theorem small32 (x : Int64) (n : Nat) (hn : n < 2147483648) (h : U x = n) : x.toInt32 = Int32.ofNat n := by
  have h1 := c_l2i x
  have h2 := U_int x
  have b1' := x.toInt32.toInt_lt; have b2' := x.toInt32.le_toInt
  rw [h] at h2
  apply Int32.toInt_inj.mp
  rw [Int32.toInt_ofNat_small (by omega)]
  omega
theorem x_eq {w : Int32} {wN uN : Nat} (hw : (w, wN, uN) ∈ WRows) (v : Int64) (i : Nat) (hi : i < 32 * uN) : F_x v (w * Int32.ofNat i) w (Int32.ofNat (2 ^ wN - 1)) = Int32.ofNat (U v / 2 ^ (56 - 8 * (i / uN % 8)) % 256 / 2 ^ (8 - wN * (i % uN + 1)) % 2 ^ wN) := by
  obtain ⟨-, h2, h3, h4⟩ := pos_all _ hw i hi
  obtain ⟨m1, -, m3⟩ := mask_all _ hw
  simp only at h2 h3 h4 m1 m3
  have hp : 2 ^ wN ≤ 2 ^ 8 := Nat.pow_le_pow_right (by decide) m3
  rw [mod_low _ _ _ h4, Nat.div_div_eq_div_mul, ← Nat.pow_add]
  unfold F_x
  apply small32 _ _ (Nat.lt_of_lt_of_le (Nat.mod_lt _ (Nat.two_pow_pos wN)) (Nat.le_trans hp (by decide)))
  rw [h2, U_and, U_shr' _ _ h3, m1, Nat.and_two_pow_sub_one_eq_mod]
def U3 (x : Int32) : Nat := x.toUInt32.toNat
theorem U3_int (v : Int32) : (U3 v : Int) = v.toInt % 4294967296 := by
  show ((v.toBitVec.toNat : Nat) : Int) = v.toBitVec.toInt % 4294967296
  have h := v.toBitVec.isLt
  rw [BitVec.toInt_eq_toNat_cond]
  split <;> omega
theorem U3_and (x y : Int32) : U3 (x &&& y) = U3 x &&& U3 y := UInt32.toNat_and ..
theorem U3_shr (x : Int32) (s : Nat) (hs : s < 32) : U3 ((x.toUInt32 >>> (Int32.ofNat s &&& 31).toUInt32).toInt32) = U3 x / 2 ^ s := by
  show (x.toUInt32 >>> (Int32.ofNat s &&& 31).toUInt32).toNat = _
  rw [UInt32.toNat_shiftRight, sh_all32 s hs, Nat.shiftRight_eq_div_pow]
  rfl
theorem small3 (x : Int32) (n : Nat) (hn : n < 2147483648) (h : U3 x = n) : x = Int32.ofNat n := by
  have h2 := U3_int x
  have b1' := x.toInt_lt; have b2' := x.le_toInt
  rw [h] at h2
  apply Int32.toInt_inj.mp
  rw [Int32.toInt_ofNat_small (by omega)]
  omega
theorem ck_all : ∀ t ∈ WRows, ∀ j < 2 * t.2.2, ((16 : Int32) - (t.1 * (Int32.ofNat j + (1 : Int32)))) = Int32.ofNat (if j / t.2.2 = 0 then 8 + (8 - t.2.1 * (j % t.2.2 + 1)) else (8 - t.2.1 * (j % t.2.2 + 1))) ∧ (8 - t.2.1 * (j % t.2.2 + 1)) + t.2.1 ≤ 8 := by decide +kernel
theorem ck_val {w : Int32} {wN uN : Nat} (hw : (w, wN, uN) ∈ WRows) (q : Int32) (j : Nat) (hj : j < 2 * uN) (i dg : Int32) (hd : i - dg = Int32.ofNat j) : F_ck (q &&& (65535 : Int32)) w (Int32.ofNat (2 ^ wN - 1)) i dg = Int32.ofNat (fN wN uN (cb q) j) := by
  obtain ⟨h1, h2⟩ := ck_all _ hw j hj
  obtain ⟨-, m1, m3⟩ := mask_all _ hw
  simp only at h1 h2 m1 m3
  have hp : 2 ^ wN ≤ 2 ^ 8 := Nat.pow_le_pow_right (by decide) m3
  unfold F_ck
  rw [hd, h1]
  apply small3 _ _ (Nat.lt_of_le_of_lt (fN_le _ _ _ _) (by omega))
  have hQ : (q.toInt % 4294967296).toNat = U3 q := by have := U3_int q; omega
  rw [U3_and, show U3 (Int32.ofNat (2 ^ wN - 1)) = 2 ^ wN - 1 from m1, Nat.and_two_pow_sub_one_eq_mod]
  unfold fN cb
  rw [hQ]
  by_cases h0 : j / uN = 0
  · rw [if_pos h0, if_pos h0, U3_shr _ _ (by omega), U3_and, show U3 65535 = 2 ^ 16 - 1 by decide, Nat.and_two_pow_sub_one_eq_mod, mod_low _ _ _ h2, mod_low16 _ _ _ (by omega), Nat.pow_add, ← Nat.div_div_eq_div_mul]
  · rw [if_neg h0, if_neg h0, U3_shr _ _ (by omega), U3_and, show U3 65535 = 2 ^ 16 - 1 by decide, Nat.and_two_pow_sub_one_eq_mod, mod_low _ _ _ h2, mod_low16 _ _ _ (by omega)]
theorem row_n : ∀ t ∈ Rows, t.2.2.2.2.2.2.2.2 < 266 ∧ t.2.2.2.2.2.2.2.1 ≤ 32 * t.2.2.2.2.2.1 ∧ t.2.2.2.2.2.2.2.1 < t.2.2.2.2.2.2.2.2 ∧ t.2.2.2.2.2.2.2.2 - t.2.2.2.2.2.2.2.1 ≤ 2 * t.2.2.2.2.2.1 ∧ 0 < t.2.2.2.2.2.1 := by decide
theorem i_lt (i j : Nat) (hi : i < 2147483648) (hj : j < 2147483648) : (Int32.ofNat i < Int32.ofNat j) ↔ i < j := by
  rw [Int32.lt_iff_toInt_lt, Int32.toInt_ofNat_small (by omega), Int32.toInt_ofNat_small (by omega)]
  omega
theorem exp_eq {w n p_ ls : Int32} {wN uN N dN pN : Nat} (hP : (w, n, p_, ls, wN, uN, N, dN, pN) ∈ Rows) (a b c d : Int64) (q : Int32) (i : Nat) (hi : i < pN) : F_exp a b c d w (Int32.ofNat (2 ^ wN - 1)) (Int32.ofNat dN) (q &&& (65535 : Int32)) (Int32.ofNat i) = Int32.ofNat (cN wN uN dN (bys a b c d) (cb q) i) := by
  obtain ⟨-, hw, h3, h4⟩ := row_u _ hP
  obtain ⟨r1, r2, r3, r4, r5⟩ := row_n _ hP
  simp only at hw h3 h4 r1 r2 r3 r4 r5
  unfold F_exp cN
  by_cases hd : i < dN
  · rw [if_pos ((i_lt i dN (by omega) (by omega)).mpr hd), if_pos hd]
    have hi32 : i < 32 * uN := by omega
    have hl := (pos_all _ hw i hi32).1
    simp only at hl
    have hk : i / uN < 32 := Nat.div_lt_of_lt_mul (by rw [Nat.mul_comm]; exact hi32)
    rw [hl, x_eq hw a i hi32, x_eq hw b i hi32, x_eq hw c i hi32, x_eq hw d i hi32]
    unfold fN bys
    generalize i / uN = k at *
    have hk4 : k / 8 = 0 ∨ k / 8 = 1 ∨ k / 8 = 2 ∨ k / 8 = 3 := by omega
    rcases hk4 with e | e | e | e
    · rw [e, if_pos (by decide), if_pos (by omega)]
    · rw [e, if_neg (by decide), if_pos (by decide), if_neg (by omega), if_pos (by omega)]
    · rw [e, if_neg (by decide), if_neg (by decide), if_pos (by decide), if_neg (by omega), if_neg (by omega), if_pos (by omega)]
    · rw [e, if_neg (by decide), if_neg (by decide), if_neg (by decide), if_neg (by omega), if_neg (by omega), if_neg (by omega)]
  · rw [if_neg (fun h => hd ((i_lt i dN (by omega) (by omega)).mp h)), if_neg hd]
    exact ck_val hw q (i - dN) (by omega) _ _ (Int32.ofNat_sub _ _ (by omega)).symm
theorem sum4_32 {w : Int32} {wN uN : Nat} (hw : (w, wN, uN) ∈ WRows) (a b c d : Int64) : F_fs a w + F_fs b w + F_fs c w + F_fs d w = Int32.ofNat (sum4 32 wN uN a b c d) := by
  rw [fs_eq hw, fs_eq hw, fs_eq hw, fs_eq hw, ← Int32.ofNat_add, ← Int32.ofNat_add, ← Int32.ofNat_add]; rfl
theorem sum4_24 {w : Int32} {wN uN : Nat} (hw : (w, wN, uN) ∈ WRows) (a b c d : Int64) : F_fs a w + F_fs b w + F_fs c w + (0 : Int32) = Int32.ofNat (sum4 24 wN uN a b c d) := by
  rw [fs_eq hw, fs_eq hw, fs_eq hw, ← Int32.ofNat_add, ← Int32.ofNat_add, Int32.add_zero]; rfl
def tab (N : Nat) (g : Nat → Value) : List Value := (List.range N).map g
def upd (g : Nat → Value) (i : Nat) (v : Value) : Nat → Value := fun k => if k = i then v else g k
theorem tab_len (N : Nat) (g : Nat → Value) : (tab N g).length = N := by simp [tab]
theorem tab_getD {N : Nat} {g : Nat → Value} {i : Nat} {dv : Value} (h : i < N) : (tab N g).getD i dv = g i := by simp [tab, List.getD, h]
theorem tab_set {N : Nat} {g : Nat → Value} {i : Nat} {v : Value} : (tab N g).set i v = tab N (upd g i v) := by
  apply List.ext_getElem?
  intro k
  simp only [tab, List.getElem?_set, List.length_map, List.length_range, List.getElem?_map, upd]
  by_cases h : i = k
  · subst h
    by_cases h2 : i < N
    · simp [h2, upd]
    · simp [h2]
  · by_cases h2 : k < N
    · simp [h, h2, upd, Ne.symm h]
    · simp [h, h2]
theorem tab_pad {N : Nat} {g g' : Nat → Value} {dv : Value} (h : ∀ i < N, g' i = g i) : ∀ i, (tab N g').getD i dv = (tab N g).getD i dv := by
  have e : tab N g' = tab N g := List.map_congr_left (fun i hi => h i (List.mem_range.mp hi))
  intro i; rw [e]
theorem tab_nil (N : Nat) (dv : Value) : ∀ i, (tab N fun _ => dv).getD i dv = ([] : List Value).getD i dv := by
  intro i
  by_cases h : i < N
  · rw [tab_getD h]; rfl
  · simp [tab, List.getD, h]
theorem clamp_n (i : Nat) (h : i < 2147483648) : (Int32.ofNat i).toNatClampNeg = i := by
  show (Int32.ofNat i).toInt.toNat = i
  rw [Int32.toInt_ofNat_small (by omega)]; omega
theorem in_n {i N : Nat} (h : i < N) (hN : N < 2147483648) : ¬ Int32.ofNat i < 0 ∧ Int32.ofNat i < Int32.ofNat N := by
  refine ⟨?_, (i_lt i N (by omega) hN).mpr h⟩
  rw [Int32.lt_iff_toInt_lt, Int32.toInt_ofNat_small (by omega), show (0 : Int32).toInt = 0 by decide]; omega
section
variable {p : Program} {l : Launch} {e : Env} {R : Room} {s : State} {m : MethodId} {args : Array Value} {below : List Frame} {meth : Method} {c : Code} {T : State} {locs : List Loc} {cells slots : Nat}
theorem stIT {Z : State} {h : Heap} {a : Addr} {kA : ClassId} {z : Int32} {N : Nat} {g : Nat → Value} {dv : Value} (X : Stand p l e R s m args below meth c T locs cells slots) (hx : p.tables.exec = Jvm.exec) (hZ : Z.Warmed39 s.vm) (eT : T.heap = h) (V : Arv Z h a kA .int z (tab N g) dv)
    {pc : Nat} {ls : Array Slot} {j x : Int32} {rest : List Value} (hd : decode c.code pc = .ok (.iastore, 1)) (hz : z = Int32.ofNat N) (hN : N < 2147483648) (i : Nat) (hj : j = Int32.ofNat i) (hi : i < N) {P : Outcome → State → Prop}
    (k : ∀ T' h', Stand p l e R s m args below meth c T' (locs ++ [⟨a, j.toNatClampNeg⟩]) cells slots → T'.heap = h' → Wr h h' a j.toNatClampNeg (.int x) → Arv Z h' a kA .int z (tab N (upd g i (.int x))) dv → Own.Fin p e below (T'.setTop (mkF m (pc + 1) ls rest)) P) :
    Own.Fin p e below (T.setTop (mkF m pc ls (.int x :: .int j :: .ref a :: rest))) P :=
  Own.stI X hx hZ eT V hd (by rw [hj, hz]; exact in_n hi hN) i (by rw [hj]; exact clamp_n i (Nat.lt_trans hi hN)) (by rw [tab_len]; exact hi) (fun T' h' X' e' W' V' => k T' h' X' e' W' (by rw [tab_set] at V'; exact V'))
theorem stBT {Z : State} {h : Heap} {a : Addr} {kA : ClassId} {z : Int32} {N : Nat} {g : Nat → Value} {dv : Value} (X : Stand p l e R s m args below meth c T locs cells slots) (hx : p.tables.exec = Jvm.exec) (hZ : Z.Warmed39 s.vm) (eT : T.heap = h) (V : Arv Z h a kA .byte z (tab N g) dv)
    {pc : Nat} {ls : Array Slot} {j x : Int32} {rest : List Value} (hd : decode c.code pc = .ok (.bastore, 1)) (hz : z = Int32.ofNat N) (hN : N < 2147483648) (i : Nat) (hj : j = Int32.ofNat i) (hi : i < N) {P : Outcome → State → Prop}
    (k : ∀ T' h', Stand p l e R s m args below meth c T' (locs ++ [⟨a, j.toNatClampNeg⟩]) cells slots → T'.heap = h' → Wr h h' a j.toNatClampNeg (.int (nar .byte x)) → Arv Z h' a kA .byte z (tab N (upd g i (.int (nar .byte x)))) dv → Own.Fin p e below (T'.setTop (mkF m (pc + 1) ls rest)) P) :
    Own.Fin p e below (T.setTop (mkF m pc ls (.int x :: .int j :: .ref a :: rest))) P :=
  Own.stB X hx hZ eT V hd (by rw [hj, hz]; exact in_n hi hN) i (by rw [hj]; exact clamp_n i (Nat.lt_trans hi hN)) (by rw [tab_len]; exact hi) (fun T' h' X' e' W' V' => k T' h' X' e' W' (by rw [tab_set] at V'; exact V'))
theorem ldIT {Z : State} {h : Heap} {a : Addr} {kA : ClassId} {z : Int32} {N : Nat} {g : Nat → Value} {dv : Value} (X : Stand p l e R s m args below meth c T locs cells slots) (hx : p.tables.exec = Jvm.exec) (hZ : Z.Warmed39 s.vm) (eT : T.heap = h) (V : Arv Z h a kA .int z (tab N g) dv)
    {pc : Nat} {ls : Array Slot} {j x : Int32} {rest : List Value} (hd : decode c.code pc = .ok (.iaload, 1)) (hz : z = Int32.ofNat N) (hN : N < 2147483648) (i : Nat) (hj : j = Int32.ofNat i) (hi : i < N) (hv : g i = .int x) {P : Outcome → State → Prop} (k : Own.Fin p e below (T.setTop (mkF m (pc + 1) ls (.int x :: rest))) P) :
    Own.Fin p e below (T.setTop (mkF m pc ls (.int j :: .ref a :: rest))) P :=
  Own.ldI X hx hZ eT V hd (by rw [hj, hz]; exact in_n hi hN) (fun y hy => by
    rw [hj, clamp_n i (Nat.lt_trans hi hN), tab_getD hi, hv] at hy
    cases hy; exact k)
theorem ldBT {Z : State} {h : Heap} {a : Addr} {kA : ClassId} {z : Int32} {N : Nat} {g : Nat → Value} {dv : Value} (X : Stand p l e R s m args below meth c T locs cells slots) (hx : p.tables.exec = Jvm.exec) (hZ : Z.Warmed39 s.vm) (eT : T.heap = h) (V : Arv Z h a kA .byte z (tab N g) dv)
    {pc : Nat} {ls : Array Slot} {j x : Int32} {rest : List Value} (hd : decode c.code pc = .ok (.baload, 1)) (hz : z = Int32.ofNat N) (hN : N < 2147483648) (i : Nat) (hj : j = Int32.ofNat i) (hi : i < N) (hv : g i = .int x) {P : Outcome → State → Prop} (k : Own.Fin p e below (T.setTop (mkF m (pc + 1) ls (.int x :: rest))) P) :
    Own.Fin p e below (T.setTop (mkF m pc ls (.int j :: .ref a :: rest))) P :=
  Own.ldB X hx hZ eT V hd (by rw [hj, hz]; exact in_n hi hN) (fun y hy => by
    rw [hj, clamp_n i (Nat.lt_trans hi hN), tab_getD hi, hv] at hy
    cases hy; exact k)
end
theorem w_f : ∀ t ∈ WRows, t.1 ≠ 0 ∧ (8 : Int32) / t.1 ≠ 0 ∧ 0 < t.2.2 := by decide
theorem rows_f : ∀ t ∈ Rows, ¬ t.2.2.1 < 0 ∧ t.2.2.1.toNatClampNeg ≤ 265 ∧ ¬ t.2.1 < 0 ∧ t.2.1.toNatClampNeg ≤ 32 ∧ t.2.2.1 = Int32.ofNat t.2.2.2.2.2.2.2.2 ∧ t.2.1 = Int32.ofNat t.2.2.2.2.2.2.1 ∧ (((1 : Int32) <<< (t.1 &&& 31)) - (1 : Int32)) = Int32.ofNat (2 ^ t.2.2.2.2.1 - 1) ∧ (((8 : Int32) * t.2.1) / t.1) = Int32.ofNat t.2.2.2.2.2.2.2.1 ∧ t.1 ≠ 0 ∧ t.2.2.1 ≠ 0 ∧ (t.2.2.1 - Int32.ofNat t.2.2.2.2.2.2.2.1) ≠ 0 ∧ (t.2.1 = (32 : Int32) → t.2.2.2.2.2.2.1 = 32) ∧ (¬ t.2.1 = (32 : Int32) → t.2.2.2.2.2.2.1 = 24) ∧ t.2.2.2.2.2.2.2.1 = t.2.2.2.2.2.2.1 * t.2.2.2.2.2.1 := by decide
theorem coef_fin {w : Int32} {wN uN : Nat} (hw : (w, wN, uN) ∈ WRows) {ix : Int32} {iN : Nat} (hi : ix = Int32.ofNat iN) (hlt : iN < 2147483648) (b : Nat) (hb : b < 256) : (((((sb b).toUInt32 >>> (((8 : Int32) - (w * ((ix - (ix / ((8 : Int32) / w)) * ((8 : Int32) / w)) + (1 : Int32)))) &&& 31).toUInt32).toInt32)) &&& (((1 : Int32) <<< (w &&& 31)) - (1 : Int32))) = Int32.ofNat (b / 2 ^ (8 - wN * (iN % uN + 1)) % 2 ^ wN) := by
  have hu := (w_f _ hw).2.2
  simp only at hu
  rw [hi, (rem_all hw iN hlt).2]
  exact coef_all _ hw b hb (iN % uN) (Nat.mod_lt _ hu)
theorem put_fin {g g1 g2 g3 g4 g5 g6 g7 g8 : Nat → Value} {o : Nat} {v0 v1 v2 v3 v4 v5 v6 v7 : Value} (h1 : upd g o v0 = g1) (h2 : upd g1 (o + 1) v1 = g2) (h3 : upd g2 (o + 2) v2 = g3) (h4 : upd g3 (o + 3) v3 = g4) (h5 : upd g4 (o + 4) v4 = g5) (h6 : upd g5 (o + 5) v5 = g6) (h7 : upd g6 (o + 6) v6 = g7) (h8 : upd g7 (o + 7) v7 = g8) :
    (∀ i, i < o ∨ o + 8 ≤ i → g8 i = g i) ∧ g8 o = v0 ∧ g8 (o + 1) = v1 ∧ g8 (o + 2) = v2 ∧ g8 (o + 3) = v3 ∧ g8 (o + 4) = v4 ∧ g8 (o + 5) = v5 ∧ g8 (o + 6) = v6 ∧ g8 (o + 7) = v7 := by
  subst h1 h2 h3 h4 h5 h6 h7 h8
  refine ⟨?_, ?_⟩
  · intro i hi
    simp only [upd]
    rw [if_neg (by omega), if_neg (by omega), if_neg (by omega), if_neg (by omega), if_neg (by omega), if_neg (by omega), if_neg (by omega), if_neg (by omega)]
  · simp [upd]
def Put (g g' : Nat → Value) (o : Nat) (v : Int64) : Prop := (∀ i, i < o ∨ o + 8 ≤ i → g' i = g i) ∧ ∀ t < 8, g' (o + t) = .int (sb (U v / 2 ^ (56 - 8 * t) % 256))
theorem put_ok {g g1 g2 g3 g4 g5 g6 g7 g8 : Nat → Value} {o : Nat} {v : Int64} (h1 : upd g o (.int (nar .byte (((v.toUInt64 >>> ((56 : Int32) &&& 0x3f).toInt64.toUInt64).toInt64).toInt32.toInt8.toInt32))) = g1) (h2 : upd g1 (o + 1) (.int (nar .byte (((v.toUInt64 >>> ((48 : Int32) &&& 0x3f).toInt64.toUInt64).toInt64).toInt32.toInt8.toInt32))) = g2) (h3 : upd g2 (o + 2) (.int (nar .byte (((v.toUInt64 >>> ((40 : Int32) &&& 0x3f).toInt64.toUInt64).toInt64).toInt32.toInt8.toInt32))) = g3) (h4 : upd g3 (o + 3) (.int (nar .byte (((v.toUInt64 >>> ((32 : Int32) &&& 0x3f).toInt64.toUInt64).toInt64).toInt32.toInt8.toInt32))) = g4) (h5 : upd g4 (o + 4) (.int (nar .byte (((v.toUInt64 >>> ((24 : Int32) &&& 0x3f).toInt64.toUInt64).toInt64).toInt32.toInt8.toInt32))) = g5) (h6 : upd g5 (o + 5) (.int (nar .byte (((v.toUInt64 >>> ((16 : Int32) &&& 0x3f).toInt64.toUInt64).toInt64).toInt32.toInt8.toInt32))) = g6) (h7 : upd g6 (o + 6) (.int (nar .byte (((v.toUInt64 >>> ((8 : Int32) &&& 0x3f).toInt64.toUInt64).toInt64).toInt32.toInt8.toInt32))) = g7) (h8 : upd g7 (o + 7) (.int (nar .byte (v.toInt32.toInt8.toInt32))) = g8) : Put g g8 o v := by
  obtain ⟨a, b0, b1, b2, b3, b4, b5, b6, b7⟩ := put_fin h1 h2 h3 h4 h5 h6 h7 h8
  rw [byte_sh _ _ 56 (by decide) (by decide)] at b0
  rw [byte_sh _ _ 48 (by decide) (by decide)] at b1
  rw [byte_sh _ _ 40 (by decide) (by decide)] at b2
  rw [byte_sh _ _ 32 (by decide) (by decide)] at b3
  rw [byte_sh _ _ 24 (by decide) (by decide)] at b4
  rw [byte_sh _ _ 16 (by decide) (by decide)] at b5
  rw [byte_sh _ _ 8 (by decide) (by decide)] at b6
  rw [byte_0] at b7
  refine ⟨a, fun t ht => ?_⟩
  match t, ht with
  | 0, _ => exact b0
  | 1, _ => exact b1
  | 2, _ => exact b2
  | 3, _ => exact b3
  | 4, _ => exact b4
  | 5, _ => exact b5
  | 6, _ => exact b6
  | 7, _ => exact b7
theorem bys_24 {a b c d : Int64} {g0 g1 g2 g3 : Nat → Value} (h1 : Put g0 g1 0 a) (h2 : Put g1 g2 8 b) (h3 : Put g2 g3 16 c) : ∀ i < 24, g3 i = .int (sb (bys a b c d i)) := by
  intro i hi
  unfold bys
  by_cases q1 : i < 8
  · rw [if_pos q1, h3.1 i (by omega), h2.1 i (by omega), show i % 8 = i by omega]
    have := h1.2 i q1; rw [Nat.zero_add] at this; exact this
  by_cases q2 : i < 16
  · rw [if_neg q1, if_pos q2, h3.1 i (by omega), show i % 8 = i - 8 by omega]
    have := h2.2 (i - 8) (by omega); rw [show 8 + (i - 8) = i by omega] at this; exact this
  · rw [if_neg q1, if_neg q2, if_pos hi, show i % 8 = i - 16 by omega]
    have := h3.2 (i - 16) (by omega); rw [show 16 + (i - 16) = i by omega] at this; exact this
theorem bys_32 {a b c d : Int64} {g0 g1 g2 g3 g4 : Nat → Value} (h1 : Put g0 g1 0 a) (h2 : Put g1 g2 8 b) (h3 : Put g2 g3 16 c) (h4 : Put g3 g4 24 d) : ∀ i < 32, g4 i = .int (sb (bys a b c d i)) := by
  intro i hi
  by_cases q : i < 24
  · rw [h4.1 i (by omega)]; exact bys_24 h1 h2 h3 i q
  · unfold bys
    rw [if_neg (by omega), if_neg (by omega), if_neg q, show i % 8 = i - 24 by omega]
    have := h4.2 (i - 24) (by omega); rw [show 24 + (i - 24) = i by omega] at this; exact this
theorem rem_gen (i k : Nat) (hi : i < 2147483648) (h0 : 0 < k) (hk : k < 2147483648) : Int32.ofNat i - Int32.ofNat i / Int32.ofNat k * Int32.ofNat k = Int32.ofNat (i % k) := by
  have hu : (Int32.ofNat k).toInt = k := Int32.toInt_ofNat_small (by omega)
  have h1 : Int32.ofNat k ≠ -1 := by intro q; rw [q] at hu; rw [show (-1 : Int32).toInt = -1 by decide] at hu; omega
  have e : Int32.ofNat i / Int32.ofNat k = Int32.ofNat (i / k) := by
    have q := (c_idiv (Int32.ofNat i) (Int32.ofNat k) k hu h1).1
    rw [Int32.toInt_ofNat_small (by omega)] at q
    apply Int32.toInt_inj.mp
    rw [q (by omega), Int32.toInt_ofNat_small (Nat.lt_of_le_of_lt (Nat.div_le_self _ _) (by omega)), Int.natCast_ediv]
  rw [e, ← Int32.ofNat_mul, ← Int32.ofNat_sub _ _ (Nat.div_mul_le_self _ _)]
  congr 1
  have := Nat.div_add_mod i k
  rw [Nat.mul_comm] at this
  omega
theorem nn_of (x : Int32) (h : 0 ≤ x.toInt) : ∃ k : Nat, k < 2147483648 ∧ x = Int32.ofNat k := by
  have b := x.toInt_lt
  refine ⟨x.toInt.toNat, by omega, ?_⟩
  apply Int32.toInt_inj.mp
  rw [Int32.toInt_ofNat_small (by omega)]
  omega
theorem i1_ex {w n p_ ls : Int32} {wN uN N dN pN : Nat} (hP : (w, n, p_, ls, wN, uN, N, dN, pN) ∈ Rows) (k : Int32) : ∃ i, i < pN ∧ ((k &&& (65535 : Int32)) - ((k &&& (65535 : Int32)) / p_) * p_) = Int32.ofNat i := by
  obtain ⟨r1, r2, r3, r4, r5⟩ := row_n _ hP
  have hf := rows_f _ hP
  simp only at r1 r2 r3 r4 r5 hf
  obtain ⟨K, hK, e⟩ := nn_of _ (c_and k 65535 (by decide)).1
  refine ⟨K % pN, Nat.mod_lt _ (by omega), ?_⟩
  rw [e, hf.2.2.2.2.1, rem_gen K pN hK (by omega) (by omega)]
theorem i2_ex {w n p_ ls : Int32} {wN uN N dN pN : Nat} (hP : (w, n, p_, ls, wN, uN, N, dN, pN) ∈ Rows) (k : Int32) : ∃ i, i < pN ∧ (Int32.ofNat dN + ((((k).toUInt32 >>> ((16 : Int32) &&& 31).toUInt32).toInt32) - ((((k).toUInt32 >>> ((16 : Int32) &&& 31).toUInt32).toInt32) / (p_ - Int32.ofNat dN)) * (p_ - Int32.ofNat dN))) = Int32.ofNat i := by
  obtain ⟨r1, r2, r3, r4, r5⟩ := row_n _ hP
  have hf := rows_f _ hP
  simp only at r1 r2 r3 r4 r5 hf
  obtain ⟨K, hK, e⟩ := nn_of (((k).toUInt32 >>> ((16 : Int32) &&& 31).toUInt32).toInt32) (by rw [c_iushr k 16 16 (by decide) (by decide)]; omega)
  refine ⟨dN + K % (pN - dN), by have := Nat.mod_lt K (show 0 < pN - dN by omega); omega, ?_⟩
  rw [e, hf.2.2.2.2.1, ← Int32.ofNat_sub _ _ (by omega), rem_gen K (pN - dN) hK (by omega) (by omega), ← Int32.ofNat_add]
theorem d1_0 : decode method_2_code 0 = .ok (.aload_n 0, 1) := by decide +kernel
theorem d1_1 : decode method_2_code 1 = .ok (.iload_n 1, 1) := by decide +kernel
theorem d1_2 : decode method_2_code 2 = .ok (.lload_n 2, 1) := by decide +kernel
theorem d1_3 : decode method_2_code 3 = .ok (.bipush 56, 2) := by decide +kernel
theorem d1_5 : decode method_2_code 5 = .ok (.lushr, 1) := by decide +kernel
theorem d1_6 : decode method_2_code 6 = .ok (.l2i, 1) := by decide +kernel
theorem d1_7 : decode method_2_code 7 = .ok (.i2b, 1) := by decide +kernel
theorem d1_8 : decode method_2_code 8 = .ok (.bastore, 1) := by decide +kernel
theorem d1_9 : decode method_2_code 9 = .ok (.aload_n 0, 1) := by decide +kernel
theorem d1_10 : decode method_2_code 10 = .ok (.iload_n 1, 1) := by decide +kernel
theorem d1_11 : decode method_2_code 11 = .ok (.iconst 1, 1) := by decide +kernel
theorem d1_12 : decode method_2_code 12 = .ok (.iadd, 1) := by decide +kernel
theorem d1_13 : decode method_2_code 13 = .ok (.lload_n 2, 1) := by decide +kernel
theorem d1_14 : decode method_2_code 14 = .ok (.bipush 48, 2) := by decide +kernel
theorem d1_16 : decode method_2_code 16 = .ok (.lushr, 1) := by decide +kernel
theorem d1_17 : decode method_2_code 17 = .ok (.l2i, 1) := by decide +kernel
theorem d1_18 : decode method_2_code 18 = .ok (.i2b, 1) := by decide +kernel
theorem d1_19 : decode method_2_code 19 = .ok (.bastore, 1) := by decide +kernel
theorem d1_20 : decode method_2_code 20 = .ok (.aload_n 0, 1) := by decide +kernel
theorem d1_21 : decode method_2_code 21 = .ok (.iload_n 1, 1) := by decide +kernel
theorem d1_22 : decode method_2_code 22 = .ok (.iconst 2, 1) := by decide +kernel
theorem d1_23 : decode method_2_code 23 = .ok (.iadd, 1) := by decide +kernel
theorem d1_24 : decode method_2_code 24 = .ok (.lload_n 2, 1) := by decide +kernel
theorem d1_25 : decode method_2_code 25 = .ok (.bipush 40, 2) := by decide +kernel
theorem d1_27 : decode method_2_code 27 = .ok (.lushr, 1) := by decide +kernel
theorem d1_28 : decode method_2_code 28 = .ok (.l2i, 1) := by decide +kernel
theorem d1_29 : decode method_2_code 29 = .ok (.i2b, 1) := by decide +kernel
theorem d1_30 : decode method_2_code 30 = .ok (.bastore, 1) := by decide +kernel
theorem d1_31 : decode method_2_code 31 = .ok (.aload_n 0, 1) := by decide +kernel
theorem d1_32 : decode method_2_code 32 = .ok (.iload_n 1, 1) := by decide +kernel
theorem d1_33 : decode method_2_code 33 = .ok (.iconst 3, 1) := by decide +kernel
theorem d1_34 : decode method_2_code 34 = .ok (.iadd, 1) := by decide +kernel
theorem d1_35 : decode method_2_code 35 = .ok (.lload_n 2, 1) := by decide +kernel
theorem d1_36 : decode method_2_code 36 = .ok (.bipush 32, 2) := by decide +kernel
theorem d1_38 : decode method_2_code 38 = .ok (.lushr, 1) := by decide +kernel
theorem d1_39 : decode method_2_code 39 = .ok (.l2i, 1) := by decide +kernel
theorem d1_40 : decode method_2_code 40 = .ok (.i2b, 1) := by decide +kernel
theorem d1_41 : decode method_2_code 41 = .ok (.bastore, 1) := by decide +kernel
theorem d1_42 : decode method_2_code 42 = .ok (.aload_n 0, 1) := by decide +kernel
theorem d1_43 : decode method_2_code 43 = .ok (.iload_n 1, 1) := by decide +kernel
theorem d1_44 : decode method_2_code 44 = .ok (.iconst 4, 1) := by decide +kernel
theorem d1_45 : decode method_2_code 45 = .ok (.iadd, 1) := by decide +kernel
theorem d1_46 : decode method_2_code 46 = .ok (.lload_n 2, 1) := by decide +kernel
theorem d1_47 : decode method_2_code 47 = .ok (.bipush 24, 2) := by decide +kernel
theorem d1_49 : decode method_2_code 49 = .ok (.lushr, 1) := by decide +kernel
theorem d1_50 : decode method_2_code 50 = .ok (.l2i, 1) := by decide +kernel
theorem d1_51 : decode method_2_code 51 = .ok (.i2b, 1) := by decide +kernel
theorem d1_52 : decode method_2_code 52 = .ok (.bastore, 1) := by decide +kernel
theorem d1_53 : decode method_2_code 53 = .ok (.aload_n 0, 1) := by decide +kernel
theorem d1_54 : decode method_2_code 54 = .ok (.iload_n 1, 1) := by decide +kernel
theorem d1_55 : decode method_2_code 55 = .ok (.iconst 5, 1) := by decide +kernel
theorem d1_56 : decode method_2_code 56 = .ok (.iadd, 1) := by decide +kernel
theorem d1_57 : decode method_2_code 57 = .ok (.lload_n 2, 1) := by decide +kernel
theorem d1_58 : decode method_2_code 58 = .ok (.bipush 16, 2) := by decide +kernel
theorem d1_60 : decode method_2_code 60 = .ok (.lushr, 1) := by decide +kernel
theorem d1_61 : decode method_2_code 61 = .ok (.l2i, 1) := by decide +kernel
theorem d1_62 : decode method_2_code 62 = .ok (.i2b, 1) := by decide +kernel
theorem d1_63 : decode method_2_code 63 = .ok (.bastore, 1) := by decide +kernel
theorem d1_64 : decode method_2_code 64 = .ok (.aload_n 0, 1) := by decide +kernel
theorem d1_65 : decode method_2_code 65 = .ok (.iload_n 1, 1) := by decide +kernel
theorem d1_66 : decode method_2_code 66 = .ok (.bipush 6, 2) := by decide +kernel
theorem d1_68 : decode method_2_code 68 = .ok (.iadd, 1) := by decide +kernel
theorem d1_69 : decode method_2_code 69 = .ok (.lload_n 2, 1) := by decide +kernel
theorem d1_70 : decode method_2_code 70 = .ok (.bipush 8, 2) := by decide +kernel
theorem d1_72 : decode method_2_code 72 = .ok (.lushr, 1) := by decide +kernel
theorem d1_73 : decode method_2_code 73 = .ok (.l2i, 1) := by decide +kernel
theorem d1_74 : decode method_2_code 74 = .ok (.i2b, 1) := by decide +kernel
theorem d1_75 : decode method_2_code 75 = .ok (.bastore, 1) := by decide +kernel
theorem d1_76 : decode method_2_code 76 = .ok (.aload_n 0, 1) := by decide +kernel
theorem d1_77 : decode method_2_code 77 = .ok (.iload_n 1, 1) := by decide +kernel
theorem d1_78 : decode method_2_code 78 = .ok (.bipush 7, 2) := by decide +kernel
theorem d1_80 : decode method_2_code 80 = .ok (.iadd, 1) := by decide +kernel
theorem d1_81 : decode method_2_code 81 = .ok (.lload_n 2, 1) := by decide +kernel
theorem d1_82 : decode method_2_code 82 = .ok (.l2i, 1) := by decide +kernel
theorem d1_83 : decode method_2_code 83 = .ok (.i2b, 1) := by decide +kernel
theorem d1_84 : decode method_2_code 84 = .ok (.bastore, 1) := by decide +kernel
theorem d1_85 : decode method_2_code 85 = .ok (.return_, 1) := by decide +kernel
theorem pn_1 : plainName "com/example/treadle/treadle/LmOtsTypeCoefficientsPinLaw" = true := by first | (simp [plainName, overriddenIn]; done) | decide +kernel
theorem ef_1 (m : MethodId) (da : Addr) (ov : Int32) (q3 : Int64) : entryFrame m #[(.ref da), (.int ov), (.long q3)] 4 = mkF m 0 #[.val (.ref da), .val (.int ov), .val (.long q3), .second] [] := by first | (simp [entryFrame, mkF, argsToLocals, Value.category]; done) | rfl
def Q1 (Z : State) (da : Addr) (ov : Int32) (q3 : Int64) (kD : ClassId) (zv : Int32) (N oN : Nat) (g : Nat → Value) (h0 : Heap) (n0 : Nat) : Option Value → Heap → List Loc → Prop := fun v h L => ∃ g', v = none ∧ Fr n0 L ∧ Keep h0 h [da] ∧ Arv Z h da kD .byte zv (tab N g') (.int (0 : Int32)) ∧ Put g g' oN q3
set_option maxRecDepth 65536 in
set_option maxHeartbeats 40000000 in
theorem rm1 (l : Launch) (Z : State) (a0 : Array Value) (hw : ∀ d ∈ tables_1, d.before a0 Z = true) (ws : List Jvm.Cond) (da : Addr) (ov : Int32) (q3 : Int64) (kD : ClassId) (zv : Int32) (N oN : Nat) (g : Nat → Value) (h0 : Heap) (n0 : Nat) (Z0 : n0 ≤ h0.size) (V0 : Arv Z h0 da kD .byte zv (tab N g) (.int (0 : Int32))) (ga : n0 ≤ da) (hz : zv = Int32.ofNat N) (hN : N < 2147483648) (ho0 : ov = Int32.ofNat oN) (ho : ∀ t < 8, ov + Int32.ofNat t = Int32.ofNat (oN + t)) (hoN : oN + 8 ≤ N) :
    MetFree l (⟨"com/example/treadle/treadle/LmOtsTypeCoefficientsPinLaw", "put", "([BIJ)V"⟩ : MethodName) (head1 (Jvm.Cond.code (⟨"com/example/treadle/treadle/LmOtsTypeCoefficientsPinLaw", "put", "([BIJ)V"⟩ : MethodName) method_2_code 4 none :: ws) ({ frames := 0, cells := 0, slots := 0, locals := 0 } : Room)) (fun a U => a = #[(.ref da), (.int ov), (.long q3)] ∧ Z.Warmed39 U.vm ∧ U.heap = h0) (fun _ _ _ _ _ => True) (fun _ U o U' => ∃ v L, o = .returned v ∧ (Q1 Z da ov q3 kD zv N oN g h0 n0) v U'.heap L ∧ FrameEnd U o U' L ({ frames := 0, cells := 0, slots := 0, locals := 0 } : Room).cells ({ frames := 0, cells := 0, slots := 0, locals := 0 } : Room).slots) := by
  refine MetFree.of_bodySF (plainFor_of_name pn_1) hisR ?_
  intro p e s m args below meth c s₁ Bd hml0 hP hK
  obtain ⟨rfl, hZ, hh⟩ := hP
  have hx := Bd.exec
  have hby := Bd.bytes
  have hml : c.maxLocals = 4 := hml0
  have hown : s.vm.findClass "com/example/treadle/treadle/LmOtsTypeCoefficientsPinLaw" = some m.cls := findClass_of_methodNamed Bd.named
  have hnm := (name_of_methodNamed Bd.named Bd.method).1
  have X0 : Stand p l e ({ frames := 0, cells := 0, slots := 0, locals := 0 } : Room) s m #[(.ref da), (.int ov), (.long q3)] below meth c s₁ [] 0 0 := Stand.of_body Bd
  have e0 : s₁.heap = h0 := by rw [← hh, Bd.state]; rfl
  have N0 := Fr.nil n0
  show Own.Fin p e below _ (Own.Post s (Q1 Z da ov q3 kD zv N oN g h0 n0) ({ frames := 0, cells := 0, slots := 0, locals := 0 } : Room).cells ({ frames := 0, cells := 0, slots := 0, locals := 0 } : Room).slots)
  refine Own.start (ef_1 m da ov q3) ?_
  show Own.Fin p e below (s₁.setTop (mkF m 0 #[.val (.ref da), .val (.int ov), .val (.long q3), .second] [])) _
  refine Own.go (fun t k => XS.aloadN X0.here hx rfl (hb hby d1_0) rfl rfl k) ?_
  show Own.Fin p e below (s₁.setTop (mkF m 1 #[.val (.ref da), .val (.int ov), .val (.long q3), .second] [(.ref da)])) _
  refine Own.go (fun t k => XS.iloadN X0.here hx rfl (hb hby d1_1) rfl k) ?_
  show Own.Fin p e below (s₁.setTop (mkF m 2 #[.val (.ref da), .val (.int ov), .val (.long q3), .second] [(.int ov), (.ref da)])) _
  refine Own.go (fun t k => XS.lloadN X0.here hx rfl (hb hby d1_2) rfl k) ?_
  show Own.Fin p e below (s₁.setTop (mkF m 3 #[.val (.ref da), .val (.int ov), .val (.long q3), .second] [(.long q3), (.int ov), (.ref da)])) _
  refine Own.go (fun t k => XS.bipush X0.here hx rfl (hb hby d1_3) k) ?_
  show Own.Fin p e below (s₁.setTop (mkF m 5 #[.val (.ref da), .val (.int ov), .val (.long q3), .second] [(.int (56 : Int32)), (.long q3), (.int ov), (.ref da)])) _
  refine Own.go (fun t k => XS.lushr X0.here hx rfl (hb hby d1_5) rfl k) ?_
  show Own.Fin p e below (s₁.setTop (mkF m 6 #[.val (.ref da), .val (.int ov), .val (.long q3), .second] [(.long (((q3).toUInt64 >>> ((56 : Int32) &&& 0x3f).toInt64.toUInt64).toInt64)), (.int ov), (.ref da)])) _
  refine Own.go (fun t k => XS.l2i X0.here hx rfl (hb hby d1_6) rfl k) ?_
  show Own.Fin p e below (s₁.setTop (mkF m 7 #[.val (.ref da), .val (.int ov), .val (.long q3), .second] [(.int (((((q3).toUInt64 >>> ((56 : Int32) &&& 0x3f).toInt64.toUInt64).toInt64)).toInt32)), (.int ov), (.ref da)])) _
  refine Own.go (fun t k => XS.i2b X0.here hx rfl (hb hby d1_7) rfl k) ?_
  show Own.Fin p e below (s₁.setTop (mkF m 8 #[.val (.ref da), .val (.int ov), .val (.long q3), .second] [(.int (((((((q3).toUInt64 >>> ((56 : Int32) &&& 0x3f).toInt64.toUInt64).toInt64)).toInt32)).toInt8.toInt32)), (.int ov), (.ref da)])) _
  refine stBT X0 hx hZ e0 V0 (hb hby d1_8) hz hN oN (ho0) (by omega) ?_
  intro T1 h1 X1 e1 W1 V1
  have N1 := Fr.snoc X1 N0 ga
  have Z1 : n0 ≤ h1.size := by rw [W1.size]; exact Z0
  have K1 := (Keep.refl h0 [da]).wr W1 (Or.inl (List.mem_cons_self ..))
  generalize hg1 : upd g _ _ = g1 at V1
  show Own.Fin p e below (T1.setTop (mkF m 9 #[.val (.ref da), .val (.int ov), .val (.long q3), .second] [])) _
  refine Own.go (fun t k => XS.aloadN X1.here hx rfl (hb hby d1_9) rfl rfl k) ?_
  show Own.Fin p e below (T1.setTop (mkF m 10 #[.val (.ref da), .val (.int ov), .val (.long q3), .second] [(.ref da)])) _
  refine Own.go (fun t k => XS.iloadN X1.here hx rfl (hb hby d1_10) rfl k) ?_
  show Own.Fin p e below (T1.setTop (mkF m 11 #[.val (.ref da), .val (.int ov), .val (.long q3), .second] [(.int ov), (.ref da)])) _
  refine Own.go (fun t k => XS.iconst X1.here hx rfl (hb hby d1_11) k) ?_
  show Own.Fin p e below (T1.setTop (mkF m 12 #[.val (.ref da), .val (.int ov), .val (.long q3), .second] [(.int (1 : Int32)), (.int ov), (.ref da)])) _
  refine Own.go (fun t k => XS.iadd X1.here hx rfl (hb hby d1_12) rfl k) ?_
  show Own.Fin p e below (T1.setTop (mkF m 13 #[.val (.ref da), .val (.int ov), .val (.long q3), .second] [(.int (ov + (1 : Int32))), (.ref da)])) _
  refine Own.go (fun t k => XS.lloadN X1.here hx rfl (hb hby d1_13) rfl k) ?_
  show Own.Fin p e below (T1.setTop (mkF m 14 #[.val (.ref da), .val (.int ov), .val (.long q3), .second] [(.long q3), (.int (ov + (1 : Int32))), (.ref da)])) _
  refine Own.go (fun t k => XS.bipush X1.here hx rfl (hb hby d1_14) k) ?_
  show Own.Fin p e below (T1.setTop (mkF m 16 #[.val (.ref da), .val (.int ov), .val (.long q3), .second] [(.int (48 : Int32)), (.long q3), (.int (ov + (1 : Int32))), (.ref da)])) _
  refine Own.go (fun t k => XS.lushr X1.here hx rfl (hb hby d1_16) rfl k) ?_
  show Own.Fin p e below (T1.setTop (mkF m 17 #[.val (.ref da), .val (.int ov), .val (.long q3), .second] [(.long (((q3).toUInt64 >>> ((48 : Int32) &&& 0x3f).toInt64.toUInt64).toInt64)), (.int (ov + (1 : Int32))), (.ref da)])) _
  refine Own.go (fun t k => XS.l2i X1.here hx rfl (hb hby d1_17) rfl k) ?_
  show Own.Fin p e below (T1.setTop (mkF m 18 #[.val (.ref da), .val (.int ov), .val (.long q3), .second] [(.int (((((q3).toUInt64 >>> ((48 : Int32) &&& 0x3f).toInt64.toUInt64).toInt64)).toInt32)), (.int (ov + (1 : Int32))), (.ref da)])) _
  refine Own.go (fun t k => XS.i2b X1.here hx rfl (hb hby d1_18) rfl k) ?_
  show Own.Fin p e below (T1.setTop (mkF m 19 #[.val (.ref da), .val (.int ov), .val (.long q3), .second] [(.int (((((((q3).toUInt64 >>> ((48 : Int32) &&& 0x3f).toInt64.toUInt64).toInt64)).toInt32)).toInt8.toInt32)), (.int (ov + (1 : Int32))), (.ref da)])) _
  refine stBT X1 hx hZ e1 V1 (hb hby d1_19) hz hN (oN + 1) (ho 1 (by decide)) (by omega) ?_
  intro T2 h2 X2 e2 W2 V2
  have N2 := Fr.snoc X2 N1 ga
  have Z2 : n0 ≤ h2.size := by rw [W2.size]; exact Z1
  have K2 := K1.wr W2 (Or.inl (List.mem_cons_self ..))
  generalize hg2 : upd g1 _ _ = g2 at V2
  show Own.Fin p e below (T2.setTop (mkF m 20 #[.val (.ref da), .val (.int ov), .val (.long q3), .second] [])) _
  refine Own.go (fun t k => XS.aloadN X2.here hx rfl (hb hby d1_20) rfl rfl k) ?_
  show Own.Fin p e below (T2.setTop (mkF m 21 #[.val (.ref da), .val (.int ov), .val (.long q3), .second] [(.ref da)])) _
  refine Own.go (fun t k => XS.iloadN X2.here hx rfl (hb hby d1_21) rfl k) ?_
  show Own.Fin p e below (T2.setTop (mkF m 22 #[.val (.ref da), .val (.int ov), .val (.long q3), .second] [(.int ov), (.ref da)])) _
  refine Own.go (fun t k => XS.iconst X2.here hx rfl (hb hby d1_22) k) ?_
  show Own.Fin p e below (T2.setTop (mkF m 23 #[.val (.ref da), .val (.int ov), .val (.long q3), .second] [(.int (2 : Int32)), (.int ov), (.ref da)])) _
  refine Own.go (fun t k => XS.iadd X2.here hx rfl (hb hby d1_23) rfl k) ?_
  show Own.Fin p e below (T2.setTop (mkF m 24 #[.val (.ref da), .val (.int ov), .val (.long q3), .second] [(.int (ov + (2 : Int32))), (.ref da)])) _
  refine Own.go (fun t k => XS.lloadN X2.here hx rfl (hb hby d1_24) rfl k) ?_
  show Own.Fin p e below (T2.setTop (mkF m 25 #[.val (.ref da), .val (.int ov), .val (.long q3), .second] [(.long q3), (.int (ov + (2 : Int32))), (.ref da)])) _
  refine Own.go (fun t k => XS.bipush X2.here hx rfl (hb hby d1_25) k) ?_
  show Own.Fin p e below (T2.setTop (mkF m 27 #[.val (.ref da), .val (.int ov), .val (.long q3), .second] [(.int (40 : Int32)), (.long q3), (.int (ov + (2 : Int32))), (.ref da)])) _
  refine Own.go (fun t k => XS.lushr X2.here hx rfl (hb hby d1_27) rfl k) ?_
  show Own.Fin p e below (T2.setTop (mkF m 28 #[.val (.ref da), .val (.int ov), .val (.long q3), .second] [(.long (((q3).toUInt64 >>> ((40 : Int32) &&& 0x3f).toInt64.toUInt64).toInt64)), (.int (ov + (2 : Int32))), (.ref da)])) _
  refine Own.go (fun t k => XS.l2i X2.here hx rfl (hb hby d1_28) rfl k) ?_
  show Own.Fin p e below (T2.setTop (mkF m 29 #[.val (.ref da), .val (.int ov), .val (.long q3), .second] [(.int (((((q3).toUInt64 >>> ((40 : Int32) &&& 0x3f).toInt64.toUInt64).toInt64)).toInt32)), (.int (ov + (2 : Int32))), (.ref da)])) _
  refine Own.go (fun t k => XS.i2b X2.here hx rfl (hb hby d1_29) rfl k) ?_
  show Own.Fin p e below (T2.setTop (mkF m 30 #[.val (.ref da), .val (.int ov), .val (.long q3), .second] [(.int (((((((q3).toUInt64 >>> ((40 : Int32) &&& 0x3f).toInt64.toUInt64).toInt64)).toInt32)).toInt8.toInt32)), (.int (ov + (2 : Int32))), (.ref da)])) _
  refine stBT X2 hx hZ e2 V2 (hb hby d1_30) hz hN (oN + 2) (ho 2 (by decide)) (by omega) ?_
  intro T3 h3 X3 e3 W3 V3
  have N3 := Fr.snoc X3 N2 ga
  have Z3 : n0 ≤ h3.size := by rw [W3.size]; exact Z2
  have K3 := K2.wr W3 (Or.inl (List.mem_cons_self ..))
  generalize hg3 : upd g2 _ _ = g3 at V3
  show Own.Fin p e below (T3.setTop (mkF m 31 #[.val (.ref da), .val (.int ov), .val (.long q3), .second] [])) _
  refine Own.go (fun t k => XS.aloadN X3.here hx rfl (hb hby d1_31) rfl rfl k) ?_
  show Own.Fin p e below (T3.setTop (mkF m 32 #[.val (.ref da), .val (.int ov), .val (.long q3), .second] [(.ref da)])) _
  refine Own.go (fun t k => XS.iloadN X3.here hx rfl (hb hby d1_32) rfl k) ?_
  show Own.Fin p e below (T3.setTop (mkF m 33 #[.val (.ref da), .val (.int ov), .val (.long q3), .second] [(.int ov), (.ref da)])) _
  refine Own.go (fun t k => XS.iconst X3.here hx rfl (hb hby d1_33) k) ?_
  show Own.Fin p e below (T3.setTop (mkF m 34 #[.val (.ref da), .val (.int ov), .val (.long q3), .second] [(.int (3 : Int32)), (.int ov), (.ref da)])) _
  refine Own.go (fun t k => XS.iadd X3.here hx rfl (hb hby d1_34) rfl k) ?_
  show Own.Fin p e below (T3.setTop (mkF m 35 #[.val (.ref da), .val (.int ov), .val (.long q3), .second] [(.int (ov + (3 : Int32))), (.ref da)])) _
  refine Own.go (fun t k => XS.lloadN X3.here hx rfl (hb hby d1_35) rfl k) ?_
  show Own.Fin p e below (T3.setTop (mkF m 36 #[.val (.ref da), .val (.int ov), .val (.long q3), .second] [(.long q3), (.int (ov + (3 : Int32))), (.ref da)])) _
  refine Own.go (fun t k => XS.bipush X3.here hx rfl (hb hby d1_36) k) ?_
  show Own.Fin p e below (T3.setTop (mkF m 38 #[.val (.ref da), .val (.int ov), .val (.long q3), .second] [(.int (32 : Int32)), (.long q3), (.int (ov + (3 : Int32))), (.ref da)])) _
  refine Own.go (fun t k => XS.lushr X3.here hx rfl (hb hby d1_38) rfl k) ?_
  show Own.Fin p e below (T3.setTop (mkF m 39 #[.val (.ref da), .val (.int ov), .val (.long q3), .second] [(.long (((q3).toUInt64 >>> ((32 : Int32) &&& 0x3f).toInt64.toUInt64).toInt64)), (.int (ov + (3 : Int32))), (.ref da)])) _
  refine Own.go (fun t k => XS.l2i X3.here hx rfl (hb hby d1_39) rfl k) ?_
  show Own.Fin p e below (T3.setTop (mkF m 40 #[.val (.ref da), .val (.int ov), .val (.long q3), .second] [(.int (((((q3).toUInt64 >>> ((32 : Int32) &&& 0x3f).toInt64.toUInt64).toInt64)).toInt32)), (.int (ov + (3 : Int32))), (.ref da)])) _
  refine Own.go (fun t k => XS.i2b X3.here hx rfl (hb hby d1_40) rfl k) ?_
  show Own.Fin p e below (T3.setTop (mkF m 41 #[.val (.ref da), .val (.int ov), .val (.long q3), .second] [(.int (((((((q3).toUInt64 >>> ((32 : Int32) &&& 0x3f).toInt64.toUInt64).toInt64)).toInt32)).toInt8.toInt32)), (.int (ov + (3 : Int32))), (.ref da)])) _
  refine stBT X3 hx hZ e3 V3 (hb hby d1_41) hz hN (oN + 3) (ho 3 (by decide)) (by omega) ?_
  intro T4 h4 X4 e4 W4 V4
  have N4 := Fr.snoc X4 N3 ga
  have Z4 : n0 ≤ h4.size := by rw [W4.size]; exact Z3
  have K4 := K3.wr W4 (Or.inl (List.mem_cons_self ..))
  generalize hg4 : upd g3 _ _ = g4 at V4
  show Own.Fin p e below (T4.setTop (mkF m 42 #[.val (.ref da), .val (.int ov), .val (.long q3), .second] [])) _
  refine Own.go (fun t k => XS.aloadN X4.here hx rfl (hb hby d1_42) rfl rfl k) ?_
  show Own.Fin p e below (T4.setTop (mkF m 43 #[.val (.ref da), .val (.int ov), .val (.long q3), .second] [(.ref da)])) _
  refine Own.go (fun t k => XS.iloadN X4.here hx rfl (hb hby d1_43) rfl k) ?_
  show Own.Fin p e below (T4.setTop (mkF m 44 #[.val (.ref da), .val (.int ov), .val (.long q3), .second] [(.int ov), (.ref da)])) _
  refine Own.go (fun t k => XS.iconst X4.here hx rfl (hb hby d1_44) k) ?_
  show Own.Fin p e below (T4.setTop (mkF m 45 #[.val (.ref da), .val (.int ov), .val (.long q3), .second] [(.int (4 : Int32)), (.int ov), (.ref da)])) _
  refine Own.go (fun t k => XS.iadd X4.here hx rfl (hb hby d1_45) rfl k) ?_
  show Own.Fin p e below (T4.setTop (mkF m 46 #[.val (.ref da), .val (.int ov), .val (.long q3), .second] [(.int (ov + (4 : Int32))), (.ref da)])) _
  refine Own.go (fun t k => XS.lloadN X4.here hx rfl (hb hby d1_46) rfl k) ?_
  show Own.Fin p e below (T4.setTop (mkF m 47 #[.val (.ref da), .val (.int ov), .val (.long q3), .second] [(.long q3), (.int (ov + (4 : Int32))), (.ref da)])) _
  refine Own.go (fun t k => XS.bipush X4.here hx rfl (hb hby d1_47) k) ?_
  show Own.Fin p e below (T4.setTop (mkF m 49 #[.val (.ref da), .val (.int ov), .val (.long q3), .second] [(.int (24 : Int32)), (.long q3), (.int (ov + (4 : Int32))), (.ref da)])) _
  refine Own.go (fun t k => XS.lushr X4.here hx rfl (hb hby d1_49) rfl k) ?_
  show Own.Fin p e below (T4.setTop (mkF m 50 #[.val (.ref da), .val (.int ov), .val (.long q3), .second] [(.long (((q3).toUInt64 >>> ((24 : Int32) &&& 0x3f).toInt64.toUInt64).toInt64)), (.int (ov + (4 : Int32))), (.ref da)])) _
  refine Own.go (fun t k => XS.l2i X4.here hx rfl (hb hby d1_50) rfl k) ?_
  show Own.Fin p e below (T4.setTop (mkF m 51 #[.val (.ref da), .val (.int ov), .val (.long q3), .second] [(.int (((((q3).toUInt64 >>> ((24 : Int32) &&& 0x3f).toInt64.toUInt64).toInt64)).toInt32)), (.int (ov + (4 : Int32))), (.ref da)])) _
  refine Own.go (fun t k => XS.i2b X4.here hx rfl (hb hby d1_51) rfl k) ?_
  show Own.Fin p e below (T4.setTop (mkF m 52 #[.val (.ref da), .val (.int ov), .val (.long q3), .second] [(.int (((((((q3).toUInt64 >>> ((24 : Int32) &&& 0x3f).toInt64.toUInt64).toInt64)).toInt32)).toInt8.toInt32)), (.int (ov + (4 : Int32))), (.ref da)])) _
  refine stBT X4 hx hZ e4 V4 (hb hby d1_52) hz hN (oN + 4) (ho 4 (by decide)) (by omega) ?_
  intro T5 h5 X5 e5 W5 V5
  have N5 := Fr.snoc X5 N4 ga
  have Z5 : n0 ≤ h5.size := by rw [W5.size]; exact Z4
  have K5 := K4.wr W5 (Or.inl (List.mem_cons_self ..))
  generalize hg5 : upd g4 _ _ = g5 at V5
  show Own.Fin p e below (T5.setTop (mkF m 53 #[.val (.ref da), .val (.int ov), .val (.long q3), .second] [])) _
  refine Own.go (fun t k => XS.aloadN X5.here hx rfl (hb hby d1_53) rfl rfl k) ?_
  show Own.Fin p e below (T5.setTop (mkF m 54 #[.val (.ref da), .val (.int ov), .val (.long q3), .second] [(.ref da)])) _
  refine Own.go (fun t k => XS.iloadN X5.here hx rfl (hb hby d1_54) rfl k) ?_
  show Own.Fin p e below (T5.setTop (mkF m 55 #[.val (.ref da), .val (.int ov), .val (.long q3), .second] [(.int ov), (.ref da)])) _
  refine Own.go (fun t k => XS.iconst X5.here hx rfl (hb hby d1_55) k) ?_
  show Own.Fin p e below (T5.setTop (mkF m 56 #[.val (.ref da), .val (.int ov), .val (.long q3), .second] [(.int (5 : Int32)), (.int ov), (.ref da)])) _
  refine Own.go (fun t k => XS.iadd X5.here hx rfl (hb hby d1_56) rfl k) ?_
  show Own.Fin p e below (T5.setTop (mkF m 57 #[.val (.ref da), .val (.int ov), .val (.long q3), .second] [(.int (ov + (5 : Int32))), (.ref da)])) _
  refine Own.go (fun t k => XS.lloadN X5.here hx rfl (hb hby d1_57) rfl k) ?_
  show Own.Fin p e below (T5.setTop (mkF m 58 #[.val (.ref da), .val (.int ov), .val (.long q3), .second] [(.long q3), (.int (ov + (5 : Int32))), (.ref da)])) _
  refine Own.go (fun t k => XS.bipush X5.here hx rfl (hb hby d1_58) k) ?_
  show Own.Fin p e below (T5.setTop (mkF m 60 #[.val (.ref da), .val (.int ov), .val (.long q3), .second] [(.int (16 : Int32)), (.long q3), (.int (ov + (5 : Int32))), (.ref da)])) _
  refine Own.go (fun t k => XS.lushr X5.here hx rfl (hb hby d1_60) rfl k) ?_
  show Own.Fin p e below (T5.setTop (mkF m 61 #[.val (.ref da), .val (.int ov), .val (.long q3), .second] [(.long (((q3).toUInt64 >>> ((16 : Int32) &&& 0x3f).toInt64.toUInt64).toInt64)), (.int (ov + (5 : Int32))), (.ref da)])) _
  refine Own.go (fun t k => XS.l2i X5.here hx rfl (hb hby d1_61) rfl k) ?_
  show Own.Fin p e below (T5.setTop (mkF m 62 #[.val (.ref da), .val (.int ov), .val (.long q3), .second] [(.int (((((q3).toUInt64 >>> ((16 : Int32) &&& 0x3f).toInt64.toUInt64).toInt64)).toInt32)), (.int (ov + (5 : Int32))), (.ref da)])) _
  refine Own.go (fun t k => XS.i2b X5.here hx rfl (hb hby d1_62) rfl k) ?_
  show Own.Fin p e below (T5.setTop (mkF m 63 #[.val (.ref da), .val (.int ov), .val (.long q3), .second] [(.int (((((((q3).toUInt64 >>> ((16 : Int32) &&& 0x3f).toInt64.toUInt64).toInt64)).toInt32)).toInt8.toInt32)), (.int (ov + (5 : Int32))), (.ref da)])) _
  refine stBT X5 hx hZ e5 V5 (hb hby d1_63) hz hN (oN + 5) (ho 5 (by decide)) (by omega) ?_
  intro T6 h6 X6 e6 W6 V6
  have N6 := Fr.snoc X6 N5 ga
  have Z6 : n0 ≤ h6.size := by rw [W6.size]; exact Z5
  have K6 := K5.wr W6 (Or.inl (List.mem_cons_self ..))
  generalize hg6 : upd g5 _ _ = g6 at V6
  show Own.Fin p e below (T6.setTop (mkF m 64 #[.val (.ref da), .val (.int ov), .val (.long q3), .second] [])) _
  refine Own.go (fun t k => XS.aloadN X6.here hx rfl (hb hby d1_64) rfl rfl k) ?_
  show Own.Fin p e below (T6.setTop (mkF m 65 #[.val (.ref da), .val (.int ov), .val (.long q3), .second] [(.ref da)])) _
  refine Own.go (fun t k => XS.iloadN X6.here hx rfl (hb hby d1_65) rfl k) ?_
  show Own.Fin p e below (T6.setTop (mkF m 66 #[.val (.ref da), .val (.int ov), .val (.long q3), .second] [(.int ov), (.ref da)])) _
  refine Own.go (fun t k => XS.bipush X6.here hx rfl (hb hby d1_66) k) ?_
  show Own.Fin p e below (T6.setTop (mkF m 68 #[.val (.ref da), .val (.int ov), .val (.long q3), .second] [(.int (6 : Int32)), (.int ov), (.ref da)])) _
  refine Own.go (fun t k => XS.iadd X6.here hx rfl (hb hby d1_68) rfl k) ?_
  show Own.Fin p e below (T6.setTop (mkF m 69 #[.val (.ref da), .val (.int ov), .val (.long q3), .second] [(.int (ov + (6 : Int32))), (.ref da)])) _
  refine Own.go (fun t k => XS.lloadN X6.here hx rfl (hb hby d1_69) rfl k) ?_
  show Own.Fin p e below (T6.setTop (mkF m 70 #[.val (.ref da), .val (.int ov), .val (.long q3), .second] [(.long q3), (.int (ov + (6 : Int32))), (.ref da)])) _
  refine Own.go (fun t k => XS.bipush X6.here hx rfl (hb hby d1_70) k) ?_
  show Own.Fin p e below (T6.setTop (mkF m 72 #[.val (.ref da), .val (.int ov), .val (.long q3), .second] [(.int (8 : Int32)), (.long q3), (.int (ov + (6 : Int32))), (.ref da)])) _
  refine Own.go (fun t k => XS.lushr X6.here hx rfl (hb hby d1_72) rfl k) ?_
  show Own.Fin p e below (T6.setTop (mkF m 73 #[.val (.ref da), .val (.int ov), .val (.long q3), .second] [(.long (((q3).toUInt64 >>> ((8 : Int32) &&& 0x3f).toInt64.toUInt64).toInt64)), (.int (ov + (6 : Int32))), (.ref da)])) _
  refine Own.go (fun t k => XS.l2i X6.here hx rfl (hb hby d1_73) rfl k) ?_
  show Own.Fin p e below (T6.setTop (mkF m 74 #[.val (.ref da), .val (.int ov), .val (.long q3), .second] [(.int (((((q3).toUInt64 >>> ((8 : Int32) &&& 0x3f).toInt64.toUInt64).toInt64)).toInt32)), (.int (ov + (6 : Int32))), (.ref da)])) _
  refine Own.go (fun t k => XS.i2b X6.here hx rfl (hb hby d1_74) rfl k) ?_
  show Own.Fin p e below (T6.setTop (mkF m 75 #[.val (.ref da), .val (.int ov), .val (.long q3), .second] [(.int (((((((q3).toUInt64 >>> ((8 : Int32) &&& 0x3f).toInt64.toUInt64).toInt64)).toInt32)).toInt8.toInt32)), (.int (ov + (6 : Int32))), (.ref da)])) _
  refine stBT X6 hx hZ e6 V6 (hb hby d1_75) hz hN (oN + 6) (ho 6 (by decide)) (by omega) ?_
  intro T7 h7 X7 e7 W7 V7
  have N7 := Fr.snoc X7 N6 ga
  have Z7 : n0 ≤ h7.size := by rw [W7.size]; exact Z6
  have K7 := K6.wr W7 (Or.inl (List.mem_cons_self ..))
  generalize hg7 : upd g6 _ _ = g7 at V7
  show Own.Fin p e below (T7.setTop (mkF m 76 #[.val (.ref da), .val (.int ov), .val (.long q3), .second] [])) _
  refine Own.go (fun t k => XS.aloadN X7.here hx rfl (hb hby d1_76) rfl rfl k) ?_
  show Own.Fin p e below (T7.setTop (mkF m 77 #[.val (.ref da), .val (.int ov), .val (.long q3), .second] [(.ref da)])) _
  refine Own.go (fun t k => XS.iloadN X7.here hx rfl (hb hby d1_77) rfl k) ?_
  show Own.Fin p e below (T7.setTop (mkF m 78 #[.val (.ref da), .val (.int ov), .val (.long q3), .second] [(.int ov), (.ref da)])) _
  refine Own.go (fun t k => XS.bipush X7.here hx rfl (hb hby d1_78) k) ?_
  show Own.Fin p e below (T7.setTop (mkF m 80 #[.val (.ref da), .val (.int ov), .val (.long q3), .second] [(.int (7 : Int32)), (.int ov), (.ref da)])) _
  refine Own.go (fun t k => XS.iadd X7.here hx rfl (hb hby d1_80) rfl k) ?_
  show Own.Fin p e below (T7.setTop (mkF m 81 #[.val (.ref da), .val (.int ov), .val (.long q3), .second] [(.int (ov + (7 : Int32))), (.ref da)])) _
  refine Own.go (fun t k => XS.lloadN X7.here hx rfl (hb hby d1_81) rfl k) ?_
  show Own.Fin p e below (T7.setTop (mkF m 82 #[.val (.ref da), .val (.int ov), .val (.long q3), .second] [(.long q3), (.int (ov + (7 : Int32))), (.ref da)])) _
  refine Own.go (fun t k => XS.l2i X7.here hx rfl (hb hby d1_82) rfl k) ?_
  show Own.Fin p e below (T7.setTop (mkF m 83 #[.val (.ref da), .val (.int ov), .val (.long q3), .second] [(.int ((q3).toInt32)), (.int (ov + (7 : Int32))), (.ref da)])) _
  refine Own.go (fun t k => XS.i2b X7.here hx rfl (hb hby d1_83) rfl k) ?_
  show Own.Fin p e below (T7.setTop (mkF m 84 #[.val (.ref da), .val (.int ov), .val (.long q3), .second] [(.int ((((q3).toInt32)).toInt8.toInt32)), (.int (ov + (7 : Int32))), (.ref da)])) _
  refine stBT X7 hx hZ e7 V7 (hb hby d1_84) hz hN (oN + 7) (ho 7 (by decide)) (by omega) ?_
  intro T8 h8 X8 e8 W8 V8
  have N8 := Fr.snoc X8 N7 ga
  have Z8 : n0 ≤ h8.size := by rw [W8.size]; exact Z7
  have K8 := K7.wr W8 (Or.inl (List.mem_cons_self ..))
  generalize hg8 : upd g7 _ _ = g8 at V8
  show Own.Fin p e below (T8.setTop (mkF m 85 #[.val (.ref da), .val (.int ov), .val (.long q3), .second] [])) _
  refine Own.retV X8 hx Bd.notSynchronized Bd.returns (hb hby d1_85) (by decide) (by decide) ?_
  exact ⟨g8, rfl, N8, by rw [e8]; exact K8, by rw [e8]; exact V8, put_ok hg1 hg2 hg3 hg4 hg5 hg6 hg7 hg8⟩
theorem d3_0 : decode prog_18_method_10_code 0 = .ok (.bipush 8, 2) := by decide +kernel
theorem d3_2 : decode prog_18_method_10_code 2 = .ok (.aload_n 0, 1) := by decide +kernel
theorem d3_3 : decode prog_18_method_10_code 3 = .ok (.getfield 54, 3) := by decide +kernel
theorem d3_6 : decode prog_18_method_10_code 6 = .ok (.idiv, 1) := by decide +kernel
theorem d3_7 : decode prog_18_method_10_code 7 = .ok (.istore_n 3, 1) := by decide +kernel
theorem d3_8 : decode prog_18_method_10_code 8 = .ok (.aload_n 1, 1) := by decide +kernel
theorem d3_9 : decode prog_18_method_10_code 9 = .ok (.iload_n 2, 1) := by decide +kernel
theorem d3_10 : decode prog_18_method_10_code 10 = .ok (.iload_n 3, 1) := by decide +kernel
theorem d3_11 : decode prog_18_method_10_code 11 = .ok (.idiv, 1) := by decide +kernel
theorem d3_12 : decode prog_18_method_10_code 12 = .ok (.baload, 1) := by decide +kernel
theorem d3_13 : decode prog_18_method_10_code 13 = .ok (.bipush 8, 2) := by decide +kernel
theorem d3_15 : decode prog_18_method_10_code 15 = .ok (.aload_n 0, 1) := by decide +kernel
theorem d3_16 : decode prog_18_method_10_code 16 = .ok (.getfield 54, 3) := by decide +kernel
theorem d3_19 : decode prog_18_method_10_code 19 = .ok (.iload_n 2, 1) := by decide +kernel
theorem d3_20 : decode prog_18_method_10_code 20 = .ok (.iload_n 3, 1) := by decide +kernel
theorem d3_21 : decode prog_18_method_10_code 21 = .ok (.irem, 1) := by decide +kernel
theorem d3_22 : decode prog_18_method_10_code 22 = .ok (.iconst 1, 1) := by decide +kernel
theorem d3_23 : decode prog_18_method_10_code 23 = .ok (.iadd, 1) := by decide +kernel
theorem d3_24 : decode prog_18_method_10_code 24 = .ok (.imul, 1) := by decide +kernel
theorem d3_25 : decode prog_18_method_10_code 25 = .ok (.isub, 1) := by decide +kernel
theorem d3_26 : decode prog_18_method_10_code 26 = .ok (.iushr, 1) := by decide +kernel
theorem d3_27 : decode prog_18_method_10_code 27 = .ok (.iconst 1, 1) := by decide +kernel
theorem d3_28 : decode prog_18_method_10_code 28 = .ok (.aload_n 0, 1) := by decide +kernel
theorem d3_29 : decode prog_18_method_10_code 29 = .ok (.getfield 54, 3) := by decide +kernel
theorem d3_32 : decode prog_18_method_10_code 32 = .ok (.ishl, 1) := by decide +kernel
theorem d3_33 : decode prog_18_method_10_code 33 = .ok (.iconst 1, 1) := by decide +kernel
theorem d3_34 : decode prog_18_method_10_code 34 = .ok (.isub, 1) := by decide +kernel
theorem d3_35 : decode prog_18_method_10_code 35 = .ok (.iand, 1) := by decide +kernel
theorem d3_36 : decode prog_18_method_10_code 36 = .ok (.ireturn, 1) := by decide +kernel
theorem pn_3 : plainName "com/example/treadle/treadle/LmOtsType" = true := by first | (simp [plainName, overriddenIn]; done) | decide +kernel
theorem ef_3 (m : MethodId) (oa : Addr) (da : Addr) (ix : Int32) : entryFrame m #[(.ref oa), (.ref da), (.int ix)] 4 = mkF m 0 #[.val (.ref oa), .val (.ref da), .val (.int ix), .unset] [] := by first | (simp [entryFrame, mkF, argsToLocals, Value.category]; done) | rfl
def Q3 (Z : State) (oa : Addr) (da : Addr) (ix : Int32) (wv zv : Int32) (wN uN N iN : Nat) (by_ : Nat → Nat) (kD : ClassId) (h0 : Heap) (n0 : Nat) : Option Value → Heap → List Loc → Prop := fun v h L => v = some (.int (Int32.ofNat (fN wN uN by_ iN))) ∧ Fr n0 L ∧ h = h0
set_option maxRecDepth 65536 in
set_option maxHeartbeats 40000000 in
theorem rm3 (l : Launch) (Z : State) (a0 : Array Value) (hw : ∀ d ∈ tables_1, d.before a0 Z = true) (ws : List Jvm.Cond) (oa : Addr) (da : Addr) (ix : Int32) (wv zv : Int32) (wN uN N iN : Nat) (by_ : Nat → Nat) (kD : ClassId) (h0 : Heap) (n0 : Nat) (Z0 : n0 ≤ h0.size) (O0 : Old Z n0 h0) (F_w : Fld Z Z.heap oa "com/example/treadle/treadle/LmOtsType" "w" "I" (.int wv)) (V0 : Arv Z h0 da kD .byte zv (tab N (fun k => Value.int (sb (by_ k)))) (.int (0 : Int32))) (hw8 : (wv, wN, uN) ∈ WRows) (hz : zv = Int32.ofNat N) (hN : N < 2147483648) (hi : ix = Int32.ofNat iN) (hlt : iN < 2147483648) (hiN : iN / uN < N) (hbl : ∀ k, by_ k < 256) :
    MetFree l (⟨"com/example/treadle/treadle/LmOtsType", "coef", "([BI)I"⟩ : MethodName) (head1 (Jvm.Cond.code (⟨"com/example/treadle/treadle/LmOtsType", "coef", "([BI)I"⟩ : MethodName) prog_18_method_10_code 4 (some .int) :: ws) ({ frames := 0, cells := 0, slots := 0, locals := 0 } : Room)) (fun a U => a = #[(.ref oa), (.ref da), (.int ix)] ∧ Z.Warmed39 U.vm ∧ U.heap = h0) (fun _ _ _ _ _ => True) (fun _ U o U' => ∃ v L, o = .returned v ∧ (Q3 Z oa da ix wv zv wN uN N iN by_ kD h0 n0) v U'.heap L ∧ FrameEnd U o U' L ({ frames := 0, cells := 0, slots := 0, locals := 0 } : Room).cells ({ frames := 0, cells := 0, slots := 0, locals := 0 } : Room).slots) := by
  refine MetFree.of_bodySF (plainFor_of_name pn_3) hisR ?_
  intro p e s m args below meth c s₁ Bd hml0 hP hK
  obtain ⟨rfl, hZ, hh⟩ := hP
  have hx := Bd.exec
  have hby := Bd.bytes
  have hml : c.maxLocals = 4 := hml0
  have hown : s.vm.findClass "com/example/treadle/treadle/LmOtsType" = some m.cls := findClass_of_methodNamed Bd.named
  have hnm := (name_of_methodNamed Bd.named Bd.method).1
  have X0 : Stand p l e ({ frames := 0, cells := 0, slots := 0, locals := 0 } : Room) s m #[(.ref oa), (.ref da), (.int ix)] below meth c s₁ [] 0 0 := Stand.of_body Bd
  have e0 : s₁.heap = h0 := by rw [← hh, Bd.state]; rfl
  have N0 := Fr.nil n0
  show Own.Fin p e below _ (Own.Post s (Q3 Z oa da ix wv zv wN uN N iN by_ kD h0 n0) ({ frames := 0, cells := 0, slots := 0, locals := 0 } : Room).cells ({ frames := 0, cells := 0, slots := 0, locals := 0 } : Room).slots)
  refine Own.start (ef_3 m oa da ix) ?_
  have hwf := w_f _ hw8
  simp only at hwf
  obtain ⟨hw0, hu0, hup⟩ := hwf
  show Own.Fin p e below (s₁.setTop (mkF m 0 #[.val (.ref oa), .val (.ref da), .val (.int ix), .unset] [])) _
  refine Own.go (fun t k => XS.bipush X0.here hx rfl (hb hby d3_0) k) ?_
  show Own.Fin p e below (s₁.setTop (mkF m 2 #[.val (.ref oa), .val (.ref da), .val (.int ix), .unset] [(.int (8 : Int32))])) _
  refine Own.go (fun t k => XS.aloadN X0.here hx rfl (hb hby d3_2) rfl rfl k) ?_
  show Own.Fin p e below (s₁.setTop (mkF m 3 #[.val (.ref oa), .val (.ref da), .val (.int ix), .unset] [(.ref oa), (.int (8 : Int32))])) _
  obtain ⟨T1, X1, e1, st1⟩ := getF X0 hx hZ hown (host := "") (Or.inl (hw _ (List.mem_of_getElem? (i := 13) rfl))) Via.refl e0 (F_w.ext O0.2) (g := (mkF m 3 #[.val (.ref oa), .val (.ref da), .val (.int ix), .unset] [(.ref oa), (.int (8 : Int32))])) rfl rfl (hb hby d3_3)
  refine Own.go st1 ?_
  show Own.Fin p e below (T1.setTop (mkF m 6 #[.val (.ref oa), .val (.ref da), .val (.int ix), .unset] [(.int wv), (.int (8 : Int32))])) _
  refine Own.go (fun t k => XS.idiv X1.here hx rfl (hb hby d3_6) rfl hw0 k) ?_
  show Own.Fin p e below (T1.setTop (mkF m 7 #[.val (.ref oa), .val (.ref da), .val (.int ix), .unset] [(.int ((8 : Int32) / wv))])) _
  refine Own.go (fun t k => XS.istoreN X1.here hx rfl (hb hby d3_7) rfl (l' := #[.val (.ref oa), .val (.ref da), .val (.int ix), .val (.int ((8 : Int32) / wv))]) rfl k) ?_
  show Own.Fin p e below (T1.setTop (mkF m 8 #[.val (.ref oa), .val (.ref da), .val (.int ix), .val (.int ((8 : Int32) / wv))] [])) _
  refine Own.go (fun t k => XS.aloadN X1.here hx rfl (hb hby d3_8) rfl rfl k) ?_
  show Own.Fin p e below (T1.setTop (mkF m 9 #[.val (.ref oa), .val (.ref da), .val (.int ix), .val (.int ((8 : Int32) / wv))] [(.ref da)])) _
  refine Own.go (fun t k => XS.iloadN X1.here hx rfl (hb hby d3_9) rfl k) ?_
  show Own.Fin p e below (T1.setTop (mkF m 10 #[.val (.ref oa), .val (.ref da), .val (.int ix), .val (.int ((8 : Int32) / wv))] [(.int ix), (.ref da)])) _
  refine Own.go (fun t k => XS.iloadN X1.here hx rfl (hb hby d3_10) rfl k) ?_
  show Own.Fin p e below (T1.setTop (mkF m 11 #[.val (.ref oa), .val (.ref da), .val (.int ix), .val (.int ((8 : Int32) / wv))] [(.int ((8 : Int32) / wv)), (.int ix), (.ref da)])) _
  refine Own.go (fun t k => XS.idiv X1.here hx rfl (hb hby d3_11) rfl hu0 k) ?_
  show Own.Fin p e below (T1.setTop (mkF m 12 #[.val (.ref oa), .val (.ref da), .val (.int ix), .val (.int ((8 : Int32) / wv))] [(.int (ix / ((8 : Int32) / wv))), (.ref da)])) _
  rw [show (ix / ((8 : Int32) / wv)) = (Int32.ofNat (iN / uN)) from (by rw [hi]; exact (rem_all hw8 iN hlt).1)]
  show Own.Fin p e below (T1.setTop (mkF m 12 #[.val (.ref oa), .val (.ref da), .val (.int ix), .val (.int ((8 : Int32) / wv))] [(.int (Int32.ofNat (iN / uN))), (.ref da)])) _
  refine ldBT (x := (sb (by_ (iN / uN)))) X1 hx hZ e1 V0 (hb hby d3_12) hz hN (iN / uN) rfl hiN rfl ?_
  show Own.Fin p e below (T1.setTop (mkF m 13 #[.val (.ref oa), .val (.ref da), .val (.int ix), .val (.int ((8 : Int32) / wv))] [(.int (sb (by_ (iN / uN))))])) _
  refine Own.go (fun t k => XS.bipush X1.here hx rfl (hb hby d3_13) k) ?_
  show Own.Fin p e below (T1.setTop (mkF m 15 #[.val (.ref oa), .val (.ref da), .val (.int ix), .val (.int ((8 : Int32) / wv))] [(.int (8 : Int32)), (.int (sb (by_ (iN / uN))))])) _
  refine Own.go (fun t k => XS.aloadN X1.here hx rfl (hb hby d3_15) rfl rfl k) ?_
  show Own.Fin p e below (T1.setTop (mkF m 16 #[.val (.ref oa), .val (.ref da), .val (.int ix), .val (.int ((8 : Int32) / wv))] [(.ref oa), (.int (8 : Int32)), (.int (sb (by_ (iN / uN))))])) _
  obtain ⟨T2, X2, e2, st2⟩ := getF X1 hx hZ hown (host := "") (Or.inl (hw _ (List.mem_of_getElem? (i := 13) rfl))) Via.refl e1 (F_w.ext O0.2) (g := (mkF m 16 #[.val (.ref oa), .val (.ref da), .val (.int ix), .val (.int ((8 : Int32) / wv))] [(.ref oa), (.int (8 : Int32)), (.int (sb (by_ (iN / uN))))])) rfl rfl (hb hby d3_16)
  refine Own.go st2 ?_
  show Own.Fin p e below (T2.setTop (mkF m 19 #[.val (.ref oa), .val (.ref da), .val (.int ix), .val (.int ((8 : Int32) / wv))] [(.int wv), (.int (8 : Int32)), (.int (sb (by_ (iN / uN))))])) _
  refine Own.go (fun t k => XS.iloadN X2.here hx rfl (hb hby d3_19) rfl k) ?_
  show Own.Fin p e below (T2.setTop (mkF m 20 #[.val (.ref oa), .val (.ref da), .val (.int ix), .val (.int ((8 : Int32) / wv))] [(.int ix), (.int wv), (.int (8 : Int32)), (.int (sb (by_ (iN / uN))))])) _
  refine Own.go (fun t k => XS.iloadN X2.here hx rfl (hb hby d3_20) rfl k) ?_
  show Own.Fin p e below (T2.setTop (mkF m 21 #[.val (.ref oa), .val (.ref da), .val (.int ix), .val (.int ((8 : Int32) / wv))] [(.int ((8 : Int32) / wv)), (.int ix), (.int wv), (.int (8 : Int32)), (.int (sb (by_ (iN / uN))))])) _
  refine Own.go (fun t k => XS.irem X2.here hx rfl (hb hby d3_21) rfl hu0 k) ?_
  show Own.Fin p e below (T2.setTop (mkF m 22 #[.val (.ref oa), .val (.ref da), .val (.int ix), .val (.int ((8 : Int32) / wv))] [(.int (ix - (ix / ((8 : Int32) / wv)) * ((8 : Int32) / wv))), (.int wv), (.int (8 : Int32)), (.int (sb (by_ (iN / uN))))])) _
  refine Own.go (fun t k => XS.iconst X2.here hx rfl (hb hby d3_22) k) ?_
  show Own.Fin p e below (T2.setTop (mkF m 23 #[.val (.ref oa), .val (.ref da), .val (.int ix), .val (.int ((8 : Int32) / wv))] [(.int (1 : Int32)), (.int (ix - (ix / ((8 : Int32) / wv)) * ((8 : Int32) / wv))), (.int wv), (.int (8 : Int32)), (.int (sb (by_ (iN / uN))))])) _
  refine Own.go (fun t k => XS.iadd X2.here hx rfl (hb hby d3_23) rfl k) ?_
  show Own.Fin p e below (T2.setTop (mkF m 24 #[.val (.ref oa), .val (.ref da), .val (.int ix), .val (.int ((8 : Int32) / wv))] [(.int ((ix - (ix / ((8 : Int32) / wv)) * ((8 : Int32) / wv)) + (1 : Int32))), (.int wv), (.int (8 : Int32)), (.int (sb (by_ (iN / uN))))])) _
  refine Own.go (fun t k => XS.imul X2.here hx rfl (hb hby d3_24) rfl k) ?_
  show Own.Fin p e below (T2.setTop (mkF m 25 #[.val (.ref oa), .val (.ref da), .val (.int ix), .val (.int ((8 : Int32) / wv))] [(.int (wv * ((ix - (ix / ((8 : Int32) / wv)) * ((8 : Int32) / wv)) + (1 : Int32)))), (.int (8 : Int32)), (.int (sb (by_ (iN / uN))))])) _
  refine Own.go (fun t k => XS.isub X2.here hx rfl (hb hby d3_25) rfl k) ?_
  show Own.Fin p e below (T2.setTop (mkF m 26 #[.val (.ref oa), .val (.ref da), .val (.int ix), .val (.int ((8 : Int32) / wv))] [(.int ((8 : Int32) - (wv * ((ix - (ix / ((8 : Int32) / wv)) * ((8 : Int32) / wv)) + (1 : Int32))))), (.int (sb (by_ (iN / uN))))])) _
  refine Own.go (fun t k => XS.iushr X2.here hx rfl (hb hby d3_26) rfl k) ?_
  show Own.Fin p e below (T2.setTop (mkF m 27 #[.val (.ref oa), .val (.ref da), .val (.int ix), .val (.int ((8 : Int32) / wv))] [(.int ((((sb (by_ (iN / uN)))).toUInt32 >>> (((8 : Int32) - (wv * ((ix - (ix / ((8 : Int32) / wv)) * ((8 : Int32) / wv)) + (1 : Int32)))) &&& 31).toUInt32).toInt32))])) _
  refine Own.go (fun t k => XS.iconst X2.here hx rfl (hb hby d3_27) k) ?_
  show Own.Fin p e below (T2.setTop (mkF m 28 #[.val (.ref oa), .val (.ref da), .val (.int ix), .val (.int ((8 : Int32) / wv))] [(.int (1 : Int32)), (.int ((((sb (by_ (iN / uN)))).toUInt32 >>> (((8 : Int32) - (wv * ((ix - (ix / ((8 : Int32) / wv)) * ((8 : Int32) / wv)) + (1 : Int32)))) &&& 31).toUInt32).toInt32))])) _
  refine Own.go (fun t k => XS.aloadN X2.here hx rfl (hb hby d3_28) rfl rfl k) ?_
  show Own.Fin p e below (T2.setTop (mkF m 29 #[.val (.ref oa), .val (.ref da), .val (.int ix), .val (.int ((8 : Int32) / wv))] [(.ref oa), (.int (1 : Int32)), (.int ((((sb (by_ (iN / uN)))).toUInt32 >>> (((8 : Int32) - (wv * ((ix - (ix / ((8 : Int32) / wv)) * ((8 : Int32) / wv)) + (1 : Int32)))) &&& 31).toUInt32).toInt32))])) _
  obtain ⟨T3, X3, e3, st3⟩ := getF X2 hx hZ hown (host := "") (Or.inl (hw _ (List.mem_of_getElem? (i := 13) rfl))) Via.refl e2 (F_w.ext O0.2) (g := (mkF m 29 #[.val (.ref oa), .val (.ref da), .val (.int ix), .val (.int ((8 : Int32) / wv))] [(.ref oa), (.int (1 : Int32)), (.int ((((sb (by_ (iN / uN)))).toUInt32 >>> (((8 : Int32) - (wv * ((ix - (ix / ((8 : Int32) / wv)) * ((8 : Int32) / wv)) + (1 : Int32)))) &&& 31).toUInt32).toInt32))])) rfl rfl (hb hby d3_29)
  refine Own.go st3 ?_
  show Own.Fin p e below (T3.setTop (mkF m 32 #[.val (.ref oa), .val (.ref da), .val (.int ix), .val (.int ((8 : Int32) / wv))] [(.int wv), (.int (1 : Int32)), (.int ((((sb (by_ (iN / uN)))).toUInt32 >>> (((8 : Int32) - (wv * ((ix - (ix / ((8 : Int32) / wv)) * ((8 : Int32) / wv)) + (1 : Int32)))) &&& 31).toUInt32).toInt32))])) _
  refine Own.go (fun t k => XS.ishl X3.here hx rfl (hb hby d3_32) rfl k) ?_
  show Own.Fin p e below (T3.setTop (mkF m 33 #[.val (.ref oa), .val (.ref da), .val (.int ix), .val (.int ((8 : Int32) / wv))] [(.int (((1 : Int32) <<< (wv &&& 31)))), (.int ((((sb (by_ (iN / uN)))).toUInt32 >>> (((8 : Int32) - (wv * ((ix - (ix / ((8 : Int32) / wv)) * ((8 : Int32) / wv)) + (1 : Int32)))) &&& 31).toUInt32).toInt32))])) _
  refine Own.go (fun t k => XS.iconst X3.here hx rfl (hb hby d3_33) k) ?_
  show Own.Fin p e below (T3.setTop (mkF m 34 #[.val (.ref oa), .val (.ref da), .val (.int ix), .val (.int ((8 : Int32) / wv))] [(.int (1 : Int32)), (.int (((1 : Int32) <<< (wv &&& 31)))), (.int ((((sb (by_ (iN / uN)))).toUInt32 >>> (((8 : Int32) - (wv * ((ix - (ix / ((8 : Int32) / wv)) * ((8 : Int32) / wv)) + (1 : Int32)))) &&& 31).toUInt32).toInt32))])) _
  refine Own.go (fun t k => XS.isub X3.here hx rfl (hb hby d3_34) rfl k) ?_
  show Own.Fin p e below (T3.setTop (mkF m 35 #[.val (.ref oa), .val (.ref da), .val (.int ix), .val (.int ((8 : Int32) / wv))] [(.int ((((1 : Int32) <<< (wv &&& 31))) - (1 : Int32))), (.int ((((sb (by_ (iN / uN)))).toUInt32 >>> (((8 : Int32) - (wv * ((ix - (ix / ((8 : Int32) / wv)) * ((8 : Int32) / wv)) + (1 : Int32)))) &&& 31).toUInt32).toInt32))])) _
  refine Own.go (fun t k => XS.iand X3.here hx rfl (hb hby d3_35) rfl k) ?_
  show Own.Fin p e below (T3.setTop (mkF m 36 #[.val (.ref oa), .val (.ref da), .val (.int ix), .val (.int ((8 : Int32) / wv))] [(.int (((((sb (by_ (iN / uN)))).toUInt32 >>> (((8 : Int32) - (wv * ((ix - (ix / ((8 : Int32) / wv)) * ((8 : Int32) / wv)) + (1 : Int32)))) &&& 31).toUInt32).toInt32) &&& ((((1 : Int32) <<< (wv &&& 31))) - (1 : Int32))))])) _
  refine Own.retI X3 hx Bd.notSynchronized Bd.returns (hb hby d3_36) (by decide) (by decide) ?_
  exact ⟨congrArg (fun z => some (Value.int z)) (coef_fin hw8 hi hlt _ (hbl _)), N0, e3⟩
theorem cb_tab (q : Int32) : tab 2 (fun k => Value.int (sb (cb q k))) = [.int (nar .byte ((((q).toUInt32 >>> ((8 : Int32) &&& 31).toUInt32).toInt32).toInt8.toInt32)), .int (nar .byte ((q).toInt8.toInt32))] := by
  have hQ : (q.toInt % 4294967296).toNat = U3 q := by have := U3_int q; omega
  have e0 : nar .byte ((((q).toUInt32 >>> ((8 : Int32) &&& 31).toUInt32).toInt32).toInt8.toInt32) = sb (cb q 0) := by
    show ((((q).toUInt32 >>> ((8 : Int32) &&& 31).toUInt32).toInt32).toInt8.toInt32).toInt8.toInt32 = _
    apply sb_of _ _ (cb_lt q 0)
    have h1 := c_iushr q 8 8 (by decide) (by decide)
    have h2 := c_i2b ((q).toUInt32 >>> ((8 : Int32) &&& 31).toUInt32).toInt32
    simp only [cb, if_true]
    omega
  have e1 : nar .byte ((q).toInt8.toInt32) = sb (cb q 1) := by
    show ((q).toInt8.toInt32).toInt8.toInt32 = _
    apply sb_of _ _ (cb_lt q 1)
    have h2 := c_i2b q
    simp only [cb, show ¬ (1 = 0) by decide, if_false]
    omega
  rw [e0, e1]
  rfl
theorem d2_0 : decode prog_18_method_9_code 0 = .ok (.iconst 1, 1) := by decide +kernel
theorem d2_1 : decode prog_18_method_9_code 1 = .ok (.aload_n 0, 1) := by decide +kernel
theorem d2_2 : decode prog_18_method_9_code 2 = .ok (.getfield 54, 3) := by decide +kernel
theorem d2_5 : decode prog_18_method_9_code 5 = .ok (.ishl, 1) := by decide +kernel
theorem d2_6 : decode prog_18_method_9_code 6 = .ok (.iconst 1, 1) := by decide +kernel
theorem d2_7 : decode prog_18_method_9_code 7 = .ok (.isub, 1) := by decide +kernel
theorem d2_8 : decode prog_18_method_9_code 8 = .ok (.istore_n 2, 1) := by decide +kernel
theorem d2_9 : decode prog_18_method_9_code 9 = .ok (.bipush 8, 2) := by decide +kernel
theorem d2_11 : decode prog_18_method_9_code 11 = .ok (.aload_n 0, 1) := by decide +kernel
theorem d2_12 : decode prog_18_method_9_code 12 = .ok (.getfield 51, 3) := by decide +kernel
theorem d2_15 : decode prog_18_method_9_code 15 = .ok (.imul, 1) := by decide +kernel
theorem d2_16 : decode prog_18_method_9_code 16 = .ok (.aload_n 0, 1) := by decide +kernel
theorem d2_17 : decode prog_18_method_9_code 17 = .ok (.getfield 54, 3) := by decide +kernel
theorem d2_20 : decode prog_18_method_9_code 20 = .ok (.idiv, 1) := by decide +kernel
theorem d2_21 : decode prog_18_method_9_code 21 = .ok (.istore_n 3, 1) := by decide +kernel
theorem d2_22 : decode prog_18_method_9_code 22 = .ok (.aload_n 0, 1) := by decide +kernel
theorem d2_23 : decode prog_18_method_9_code 23 = .ok (.getfield 57, 3) := by decide +kernel
theorem d2_26 : decode prog_18_method_9_code 26 = .ok (.newarray .int, 2) := by decide +kernel
theorem d2_28 : decode prog_18_method_9_code 28 = .ok (.astore 4, 2) := by decide +kernel
theorem d2_30 : decode prog_18_method_9_code 30 = .ok (.iconst 0, 1) := by decide +kernel
theorem d2_31 : decode prog_18_method_9_code 31 = .ok (.istore 5, 2) := by decide +kernel
theorem d2_33 : decode prog_18_method_9_code 33 = .ok (.iconst 0, 1) := by decide +kernel
theorem d2_34 : decode prog_18_method_9_code 34 = .ok (.istore 6, 2) := by decide +kernel
theorem d2_36 : decode prog_18_method_9_code 36 = .ok (.iload 6, 2) := by decide +kernel
theorem d2_38 : decode prog_18_method_9_code 38 = .ok (.iload_n 3, 1) := by decide +kernel
theorem d2_39 : decode prog_18_method_9_code 39 = .ok (.if_icmp .ge 33, 3) := by decide +kernel
theorem d2_42 : decode prog_18_method_9_code 42 = .ok (.aload 4, 2) := by decide +kernel
theorem d2_44 : decode prog_18_method_9_code 44 = .ok (.iload 6, 2) := by decide +kernel
theorem d2_46 : decode prog_18_method_9_code 46 = .ok (.aload_n 0, 1) := by decide +kernel
theorem d2_47 : decode prog_18_method_9_code 47 = .ok (.aload_n 1, 1) := by decide +kernel
theorem d2_48 : decode prog_18_method_9_code 48 = .ok (.iload 6, 2) := by decide +kernel
theorem d2_50 : decode prog_18_method_9_code 50 = .ok (.invokevirtual 63, 3) := by decide +kernel
theorem d2_53 : decode prog_18_method_9_code 53 = .ok (.iastore, 1) := by decide +kernel
theorem d2_54 : decode prog_18_method_9_code 54 = .ok (.iload 5, 2) := by decide +kernel
theorem d2_56 : decode prog_18_method_9_code 56 = .ok (.iload_n 2, 1) := by decide +kernel
theorem d2_57 : decode prog_18_method_9_code 57 = .ok (.aload 4, 2) := by decide +kernel
theorem d2_59 : decode prog_18_method_9_code 59 = .ok (.iload 6, 2) := by decide +kernel
theorem d2_61 : decode prog_18_method_9_code 61 = .ok (.iaload, 1) := by decide +kernel
theorem d2_62 : decode prog_18_method_9_code 62 = .ok (.isub, 1) := by decide +kernel
theorem d2_63 : decode prog_18_method_9_code 63 = .ok (.iadd, 1) := by decide +kernel
theorem d2_64 : decode prog_18_method_9_code 64 = .ok (.istore 5, 2) := by decide +kernel
theorem d2_66 : decode prog_18_method_9_code 66 = .ok (.iinc 6 1, 3) := by decide +kernel
theorem d2_69 : decode prog_18_method_9_code 69 = .ok (.goto (-33), 3) := by decide +kernel
theorem d2_72 : decode prog_18_method_9_code 72 = .ok (.iload 5, 2) := by decide +kernel
theorem d2_74 : decode prog_18_method_9_code 74 = .ok (.aload_n 0, 1) := by decide +kernel
theorem d2_75 : decode prog_18_method_9_code 75 = .ok (.getfield 60, 3) := by decide +kernel
theorem d2_78 : decode prog_18_method_9_code 78 = .ok (.ishl, 1) := by decide +kernel
theorem d2_79 : decode prog_18_method_9_code 79 = .ok (.istore 5, 2) := by decide +kernel
theorem d2_81 : decode prog_18_method_9_code 81 = .ok (.iconst 2, 1) := by decide +kernel
theorem d2_82 : decode prog_18_method_9_code 82 = .ok (.newarray .byte, 2) := by decide +kernel
theorem d2_84 : decode prog_18_method_9_code 84 = .ok (.dup, 1) := by decide +kernel
theorem d2_85 : decode prog_18_method_9_code 85 = .ok (.iconst 0, 1) := by decide +kernel
theorem d2_86 : decode prog_18_method_9_code 86 = .ok (.iload 5, 2) := by decide +kernel
theorem d2_88 : decode prog_18_method_9_code 88 = .ok (.bipush 8, 2) := by decide +kernel
theorem d2_90 : decode prog_18_method_9_code 90 = .ok (.iushr, 1) := by decide +kernel
theorem d2_91 : decode prog_18_method_9_code 91 = .ok (.i2b, 1) := by decide +kernel
theorem d2_92 : decode prog_18_method_9_code 92 = .ok (.bastore, 1) := by decide +kernel
theorem d2_93 : decode prog_18_method_9_code 93 = .ok (.dup, 1) := by decide +kernel
theorem d2_94 : decode prog_18_method_9_code 94 = .ok (.iconst 1, 1) := by decide +kernel
theorem d2_95 : decode prog_18_method_9_code 95 = .ok (.iload 5, 2) := by decide +kernel
theorem d2_97 : decode prog_18_method_9_code 97 = .ok (.i2b, 1) := by decide +kernel
theorem d2_98 : decode prog_18_method_9_code 98 = .ok (.bastore, 1) := by decide +kernel
theorem d2_99 : decode prog_18_method_9_code 99 = .ok (.astore 6, 2) := by decide +kernel
theorem d2_101 : decode prog_18_method_9_code 101 = .ok (.iload_n 3, 1) := by decide +kernel
theorem d2_102 : decode prog_18_method_9_code 102 = .ok (.istore 7, 2) := by decide +kernel
theorem d2_104 : decode prog_18_method_9_code 104 = .ok (.iload 7, 2) := by decide +kernel
theorem d2_106 : decode prog_18_method_9_code 106 = .ok (.aload_n 0, 1) := by decide +kernel
theorem d2_107 : decode prog_18_method_9_code 107 = .ok (.getfield 57, 3) := by decide +kernel
theorem d2_110 : decode prog_18_method_9_code 110 = .ok (.if_icmp .ge 24, 3) := by decide +kernel
theorem d2_113 : decode prog_18_method_9_code 113 = .ok (.aload 4, 2) := by decide +kernel
theorem d2_115 : decode prog_18_method_9_code 115 = .ok (.iload 7, 2) := by decide +kernel
theorem d2_117 : decode prog_18_method_9_code 117 = .ok (.aload_n 0, 1) := by decide +kernel
theorem d2_118 : decode prog_18_method_9_code 118 = .ok (.aload 6, 2) := by decide +kernel
theorem d2_120 : decode prog_18_method_9_code 120 = .ok (.iload 7, 2) := by decide +kernel
theorem d2_122 : decode prog_18_method_9_code 122 = .ok (.iload_n 3, 1) := by decide +kernel
theorem d2_123 : decode prog_18_method_9_code 123 = .ok (.isub, 1) := by decide +kernel
theorem d2_124 : decode prog_18_method_9_code 124 = .ok (.invokevirtual 63, 3) := by decide +kernel
theorem d2_127 : decode prog_18_method_9_code 127 = .ok (.iastore, 1) := by decide +kernel
theorem d2_128 : decode prog_18_method_9_code 128 = .ok (.iinc 7 1, 3) := by decide +kernel
theorem d2_131 : decode prog_18_method_9_code 131 = .ok (.goto (-27), 3) := by decide +kernel
theorem d2_134 : decode prog_18_method_9_code 134 = .ok (.aload 4, 2) := by decide +kernel
theorem d2_136 : decode prog_18_method_9_code 136 = .ok (.areturn, 1) := by decide +kernel
theorem pd_0 : parseMethodDescriptor "([BI)I" = some ⟨[(.array .byte), .int], some .int⟩ := by decide +kernel
theorem pn_2 : plainName "com/example/treadle/treadle/LmOtsType" = true := by first | (simp [plainName, overriddenIn]; done) | decide +kernel
theorem ef_2 (m : MethodId) (oa : Addr) (da : Addr) : entryFrame m #[(.ref oa), (.ref da)] 8 = mkF m 0 #[.val (.ref oa), .val (.ref da), .unset, .unset, .unset, .unset, .unset, .unset] [] := by first | (simp [entryFrame, mkF, argsToLocals, Value.category]; done) | rfl
def Q2 (Z : State) (oa : Addr) (da : Addr) (wv nv pv lv : Int32) (wN uN N dN pN : Nat) (by_ : Nat → Nat) (kD : ClassId) (h0 : Heap) (n0 : Nat) : Option Value → Heap → List Loc → Prop := fun v h L => ∃ (b : Addr) (k : ClassId) (g : Nat → Value), n0 ≤ b ∧ v = some (.ref b) ∧ Fr n0 L ∧ n0 ≤ h.size ∧ Arv Z h b k .int pv (tab pN g) (.int (0 : Int32)) ∧ ∀ i < pN, g i = .int (Int32.ofNat (cN wN uN dN by_ (cb (Int32.ofNat (SN wN uN by_ dN) <<< (lv &&& 31))) i))
set_option maxRecDepth 65536 in
set_option maxHeartbeats 40000000 in
theorem rm2 (l : Launch) (Z : State) (a0 : Array Value) (hw : ∀ d ∈ tables_1, d.before a0 Z = true) (ws : List Jvm.Cond) (oa : Addr) (da : Addr) (wv nv pv lv : Int32) (wN uN N dN pN : Nat) (by_ : Nat → Nat) (kD : ClassId) (h0 : Heap) (n0 : Nat) (Z0 : n0 ≤ h0.size) (O0 : Old Z n0 h0) (E0 : Exa Z Z.heap oa "com/example/treadle/treadle/LmOtsType") (F_w : Fld Z Z.heap oa "com/example/treadle/treadle/LmOtsType" "w" "I" (.int wv)) (F_n : Fld Z Z.heap oa "com/example/treadle/treadle/LmOtsType" "n" "I" (.int nv)) (F_p : Fld Z Z.heap oa "com/example/treadle/treadle/LmOtsType" "p" "I" (.int pv)) (F_ls : Fld Z Z.heap oa "com/example/treadle/treadle/LmOtsType" "ls" "I" (.int lv)) (V0 : Arv Z h0 da kD .byte nv (tab N (fun k => Value.int (sb (by_ k)))) (.int (0 : Int32))) (hP : (wv, nv, pv, lv, wN, uN, N, dN, pN) ∈ Rows) (hby8 : ∀ k, by_ k < 256) :
    MetFree l (⟨"com/example/treadle/treadle/LmOtsType", "coefficients", "([B)[I"⟩ : MethodName) (head1 (Jvm.Cond.code (⟨"com/example/treadle/treadle/LmOtsType", "coefficients", "([B)[I"⟩ : MethodName) prog_18_method_9_code 8 (some (.array .int)) :: ws) ({ frames := 1, cells := 2, slots := 267, locals := 17 } : Room)) (fun a U => a = #[(.ref oa), (.ref da)] ∧ Z.Warmed39 U.vm ∧ U.heap = h0) (fun _ _ _ _ _ => True) (fun _ U o U' => ∃ v L, o = .returned v ∧ (Q2 Z oa da wv nv pv lv wN uN N dN pN by_ kD h0 n0) v U'.heap L ∧ FrameEnd U o U' L ({ frames := 1, cells := 2, slots := 267, locals := 17 } : Room).cells ({ frames := 1, cells := 2, slots := 267, locals := 17 } : Room).slots) := by
  refine MetFree.of_bodySF (plainFor_of_name pn_2) hisR ?_
  intro p e s m args below meth c s₁ Bd hml0 hP hK
  obtain ⟨rfl, hZ, hh⟩ := hP
  have hx := Bd.exec
  have hby := Bd.bytes
  have hml : c.maxLocals = 8 := hml0
  have hown : s.vm.findClass "com/example/treadle/treadle/LmOtsType" = some m.cls := findClass_of_methodNamed Bd.named
  have hnm := (name_of_methodNamed Bd.named Bd.method).1
  have X0 : Stand p l e ({ frames := 1, cells := 2, slots := 267, locals := 17 } : Room) s m #[(.ref oa), (.ref da)] below meth c s₁ [] 0 0 := Stand.of_body Bd
  have e0 : s₁.heap = h0 := by rw [← hh, Bd.state]; rfl
  have N0 := Fr.nil n0
  show Own.Fin p e below _ (Own.Post s (Q2 Z oa da wv nv pv lv wN uN N dN pN by_ kD h0 n0) ({ frames := 1, cells := 2, slots := 267, locals := 17 } : Room).cells ({ frames := 1, cells := 2, slots := 267, locals := 17 } : Room).slots)
  refine Own.start (ef_2 m oa da) ?_
  have hf := rows_f _ hP
  have hr := row_n _ hP
  have hu := row_u _ hP
  simp only at hf hr hu
  obtain ⟨fx1, fx2, fx3, fx4, fx5, fx6, fx7, fx8, fx9, fx10, fx11, fx12, fx13, fx14⟩ := hf
  obtain ⟨r1, r2, r3, r4, r5⟩ := hr
  obtain ⟨u1, hw8, u3, u4⟩ := hu
  have hN32 : N < 2147483648 := by omega
  have hpN : pN < 2147483648 := by omega
  show Own.Fin p e below (s₁.setTop (mkF m 0 #[.val (.ref oa), .val (.ref da), .unset, .unset, .unset, .unset, .unset, .unset] [])) _
  refine Own.go (fun t k => XS.iconst X0.here hx rfl (hb hby d2_0) k) ?_
  show Own.Fin p e below (s₁.setTop (mkF m 1 #[.val (.ref oa), .val (.ref da), .unset, .unset, .unset, .unset, .unset, .unset] [(.int (1 : Int32))])) _
  refine Own.go (fun t k => XS.aloadN X0.here hx rfl (hb hby d2_1) rfl rfl k) ?_
  show Own.Fin p e below (s₁.setTop (mkF m 2 #[.val (.ref oa), .val (.ref da), .unset, .unset, .unset, .unset, .unset, .unset] [(.ref oa), (.int (1 : Int32))])) _
  obtain ⟨T1, X1, e1, st1⟩ := getF X0 hx hZ hown (host := "") (Or.inl (hw _ (List.mem_of_getElem? (i := 13) rfl))) Via.refl e0 (F_w.ext O0.2) (g := (mkF m 2 #[.val (.ref oa), .val (.ref da), .unset, .unset, .unset, .unset, .unset, .unset] [(.ref oa), (.int (1 : Int32))])) rfl rfl (hb hby d2_2)
  refine Own.go st1 ?_
  show Own.Fin p e below (T1.setTop (mkF m 5 #[.val (.ref oa), .val (.ref da), .unset, .unset, .unset, .unset, .unset, .unset] [(.int wv), (.int (1 : Int32))])) _
  refine Own.go (fun t k => XS.ishl X1.here hx rfl (hb hby d2_5) rfl k) ?_
  show Own.Fin p e below (T1.setTop (mkF m 6 #[.val (.ref oa), .val (.ref da), .unset, .unset, .unset, .unset, .unset, .unset] [(.int (((1 : Int32) <<< (wv &&& 31))))])) _
  refine Own.go (fun t k => XS.iconst X1.here hx rfl (hb hby d2_6) k) ?_
  show Own.Fin p e below (T1.setTop (mkF m 7 #[.val (.ref oa), .val (.ref da), .unset, .unset, .unset, .unset, .unset, .unset] [(.int (1 : Int32)), (.int (((1 : Int32) <<< (wv &&& 31))))])) _
  refine Own.go (fun t k => XS.isub X1.here hx rfl (hb hby d2_7) rfl k) ?_
  show Own.Fin p e below (T1.setTop (mkF m 8 #[.val (.ref oa), .val (.ref da), .unset, .unset, .unset, .unset, .unset, .unset] [(.int ((((1 : Int32) <<< (wv &&& 31))) - (1 : Int32)))])) _
  rw [show ((((1 : Int32) <<< (wv &&& 31))) - (1 : Int32)) = (Int32.ofNat (2 ^ wN - 1)) from fx7]
  show Own.Fin p e below (T1.setTop (mkF m 8 #[.val (.ref oa), .val (.ref da), .unset, .unset, .unset, .unset, .unset, .unset] [(.int (Int32.ofNat (2 ^ wN - 1)))])) _
  refine Own.go (fun t k => XS.istoreN X1.here hx rfl (hb hby d2_8) rfl (l' := #[.val (.ref oa), .val (.ref da), .val (.int (Int32.ofNat (2 ^ wN - 1))), .unset, .unset, .unset, .unset, .unset]) rfl k) ?_
  show Own.Fin p e below (T1.setTop (mkF m 9 #[.val (.ref oa), .val (.ref da), .val (.int (Int32.ofNat (2 ^ wN - 1))), .unset, .unset, .unset, .unset, .unset] [])) _
  refine Own.go (fun t k => XS.bipush X1.here hx rfl (hb hby d2_9) k) ?_
  show Own.Fin p e below (T1.setTop (mkF m 11 #[.val (.ref oa), .val (.ref da), .val (.int (Int32.ofNat (2 ^ wN - 1))), .unset, .unset, .unset, .unset, .unset] [(.int (8 : Int32))])) _
  refine Own.go (fun t k => XS.aloadN X1.here hx rfl (hb hby d2_11) rfl rfl k) ?_
  show Own.Fin p e below (T1.setTop (mkF m 12 #[.val (.ref oa), .val (.ref da), .val (.int (Int32.ofNat (2 ^ wN - 1))), .unset, .unset, .unset, .unset, .unset] [(.ref oa), (.int (8 : Int32))])) _
  obtain ⟨T2, X2, e2, st2⟩ := getF X1 hx hZ hown (host := "") (Or.inl (hw _ (List.mem_of_getElem? (i := 15) rfl))) Via.refl e1 (F_n.ext O0.2) (g := (mkF m 12 #[.val (.ref oa), .val (.ref da), .val (.int (Int32.ofNat (2 ^ wN - 1))), .unset, .unset, .unset, .unset, .unset] [(.ref oa), (.int (8 : Int32))])) rfl rfl (hb hby d2_12)
  refine Own.go st2 ?_
  show Own.Fin p e below (T2.setTop (mkF m 15 #[.val (.ref oa), .val (.ref da), .val (.int (Int32.ofNat (2 ^ wN - 1))), .unset, .unset, .unset, .unset, .unset] [(.int nv), (.int (8 : Int32))])) _
  refine Own.go (fun t k => XS.imul X2.here hx rfl (hb hby d2_15) rfl k) ?_
  show Own.Fin p e below (T2.setTop (mkF m 16 #[.val (.ref oa), .val (.ref da), .val (.int (Int32.ofNat (2 ^ wN - 1))), .unset, .unset, .unset, .unset, .unset] [(.int ((8 : Int32) * nv))])) _
  refine Own.go (fun t k => XS.aloadN X2.here hx rfl (hb hby d2_16) rfl rfl k) ?_
  show Own.Fin p e below (T2.setTop (mkF m 17 #[.val (.ref oa), .val (.ref da), .val (.int (Int32.ofNat (2 ^ wN - 1))), .unset, .unset, .unset, .unset, .unset] [(.ref oa), (.int ((8 : Int32) * nv))])) _
  obtain ⟨T3, X3, e3, st3⟩ := getF X2 hx hZ hown (host := "") (Or.inl (hw _ (List.mem_of_getElem? (i := 13) rfl))) Via.refl e2 (F_w.ext O0.2) (g := (mkF m 17 #[.val (.ref oa), .val (.ref da), .val (.int (Int32.ofNat (2 ^ wN - 1))), .unset, .unset, .unset, .unset, .unset] [(.ref oa), (.int ((8 : Int32) * nv))])) rfl rfl (hb hby d2_17)
  refine Own.go st3 ?_
  show Own.Fin p e below (T3.setTop (mkF m 20 #[.val (.ref oa), .val (.ref da), .val (.int (Int32.ofNat (2 ^ wN - 1))), .unset, .unset, .unset, .unset, .unset] [(.int wv), (.int ((8 : Int32) * nv))])) _
  refine Own.go (fun t k => XS.idiv X3.here hx rfl (hb hby d2_20) rfl fx9 k) ?_
  show Own.Fin p e below (T3.setTop (mkF m 21 #[.val (.ref oa), .val (.ref da), .val (.int (Int32.ofNat (2 ^ wN - 1))), .unset, .unset, .unset, .unset, .unset] [(.int (((8 : Int32) * nv) / wv))])) _
  rw [show (((8 : Int32) * nv) / wv) = (Int32.ofNat dN) from fx8]
  show Own.Fin p e below (T3.setTop (mkF m 21 #[.val (.ref oa), .val (.ref da), .val (.int (Int32.ofNat (2 ^ wN - 1))), .unset, .unset, .unset, .unset, .unset] [(.int (Int32.ofNat dN))])) _
  refine Own.go (fun t k => XS.istoreN X3.here hx rfl (hb hby d2_21) rfl (l' := #[.val (.ref oa), .val (.ref da), .val (.int (Int32.ofNat (2 ^ wN - 1))), .val (.int (Int32.ofNat dN)), .unset, .unset, .unset, .unset]) rfl k) ?_
  show Own.Fin p e below (T3.setTop (mkF m 22 #[.val (.ref oa), .val (.ref da), .val (.int (Int32.ofNat (2 ^ wN - 1))), .val (.int (Int32.ofNat dN)), .unset, .unset, .unset, .unset] [])) _
  refine Own.go (fun t k => XS.aloadN X3.here hx rfl (hb hby d2_22) rfl rfl k) ?_
  show Own.Fin p e below (T3.setTop (mkF m 23 #[.val (.ref oa), .val (.ref da), .val (.int (Int32.ofNat (2 ^ wN - 1))), .val (.int (Int32.ofNat dN)), .unset, .unset, .unset, .unset] [(.ref oa)])) _
  obtain ⟨T4, X4, e4, st4⟩ := getF X3 hx hZ hown (host := "") (Or.inl (hw _ (List.mem_of_getElem? (i := 17) rfl))) Via.refl e3 (F_p.ext O0.2) (g := (mkF m 23 #[.val (.ref oa), .val (.ref da), .val (.int (Int32.ofNat (2 ^ wN - 1))), .val (.int (Int32.ofNat dN)), .unset, .unset, .unset, .unset] [(.ref oa)])) rfl rfl (hb hby d2_23)
  refine Own.go st4 ?_
  show Own.Fin p e below (T4.setTop (mkF m 26 #[.val (.ref oa), .val (.ref da), .val (.int (Int32.ofNat (2 ^ wN - 1))), .val (.int (Int32.ofNat dN)), .unset, .unset, .unset, .unset] [(.int pv)])) _
  refine Own.newA X4 hx hZ (hw _ (List.mem_of_getElem? (i := 19) rfl)) e4 (hb hby d2_26) fx1 265 fx2 (by decide) (by decide) (by decide) ?_
  intro T5 h5 b5 k5 X5 e5 E5 gb5 V5
  have ge5 : n0 ≤ b5 := by rw [gb5]; exact Z0
  have ne5_da : da ≠ b5 := Nat.ne_of_lt (Nat.lt_of_lt_of_le V0.lt (Nat.le_of_eq gb5.symm))
  have Z5 : n0 ≤ h5.size := Nat.le_trans Z0 E5.1
  have f6 := V0.ext E5
  have O5 := O0.ext E5
  show Own.Fin p e below (T5.setTop (mkF m 28 #[.val (.ref oa), .val (.ref da), .val (.int (Int32.ofNat (2 ^ wN - 1))), .val (.int (Int32.ofNat dN)), .unset, .unset, .unset, .unset] [(.ref b5)])) _
  have Vt7 : Arv Z h5 b5 k5 .int pv (tab pN (fun _ => .int (0 : Int32))) (.int (0 : Int32)) := Arv.pad V5 (tab_nil pN _)
  refine Own.go (fun t k => XS.astore X5.here hx rfl (hb hby d2_28) rfl rfl (l' := #[.val (.ref oa), .val (.ref da), .val (.int (Int32.ofNat (2 ^ wN - 1))), .val (.int (Int32.ofNat dN)), .val (.ref b5), .unset, .unset, .unset]) rfl k) ?_
  show Own.Fin p e below (T5.setTop (mkF m 30 #[.val (.ref oa), .val (.ref da), .val (.int (Int32.ofNat (2 ^ wN - 1))), .val (.int (Int32.ofNat dN)), .val (.ref b5), .unset, .unset, .unset] [])) _
  refine Own.go (fun t k => XS.iconst X5.here hx rfl (hb hby d2_30) k) ?_
  show Own.Fin p e below (T5.setTop (mkF m 31 #[.val (.ref oa), .val (.ref da), .val (.int (Int32.ofNat (2 ^ wN - 1))), .val (.int (Int32.ofNat dN)), .val (.ref b5), .unset, .unset, .unset] [(.int (0 : Int32))])) _
  refine Own.go (fun t k => XS.istore X5.here hx rfl (hb hby d2_31) rfl (l' := #[.val (.ref oa), .val (.ref da), .val (.int (Int32.ofNat (2 ^ wN - 1))), .val (.int (Int32.ofNat dN)), .val (.ref b5), .val (.int (0 : Int32)), .unset, .unset]) rfl k) ?_
  show Own.Fin p e below (T5.setTop (mkF m 33 #[.val (.ref oa), .val (.ref da), .val (.int (Int32.ofNat (2 ^ wN - 1))), .val (.int (Int32.ofNat dN)), .val (.ref b5), .val (.int (0 : Int32)), .unset, .unset] [])) _
  refine Own.go (fun t k => XS.iconst X5.here hx rfl (hb hby d2_33) k) ?_
  show Own.Fin p e below (T5.setTop (mkF m 34 #[.val (.ref oa), .val (.ref da), .val (.int (Int32.ofNat (2 ^ wN - 1))), .val (.int (Int32.ofNat dN)), .val (.ref b5), .val (.int (0 : Int32)), .unset, .unset] [(.int (0 : Int32))])) _
  refine Own.go (fun t k => XS.istore X5.here hx rfl (hb hby d2_34) rfl (l' := #[.val (.ref oa), .val (.ref da), .val (.int (Int32.ofNat (2 ^ wN - 1))), .val (.int (Int32.ofNat dN)), .val (.ref b5), .val (.int (0 : Int32)), .val (.int (0 : Int32)), .unset]) rfl k) ?_
  show Own.Fin p e below (T5.setTop (mkF m 36 #[.val (.ref oa), .val (.ref da), .val (.int (Int32.ofNat (2 ^ wN - 1))), .val (.int (Int32.ofNat dN)), .val (.ref b5), .val (.int (0 : Int32)), .val (.int (0 : Int32)), .unset] [])) _
  have loop1 : ∀ (dd j : Nat) (hjd : j + dd = dN) (Tj : State) (hj : Heap) (Lj : List Loc) (g : Nat → Value) (Xj : Stand p l e ({ frames := 1, cells := 2, slots := 267, locals := 17 } : Room) s m #[(.ref oa), (.ref da)] below meth c Tj Lj 1 265) (ej : Tj.heap = hj) (Nj : Fr n0 Lj) (Zj : n0 ≤ hj.size) (Oj : Old Z n0 hj) (Vj0 : Arv Z hj da kD .byte nv (tab N (fun k => Value.int (sb (by_ k)))) (.int (0 : Int32))) (Vj1 : Arv Z hj b5 k5 .int pv (tab pN g) (.int (0 : Int32))) (hg : ∀ i < j, g i = .int (Int32.ofNat (fN wN uN by_ i))), Own.Fin p e below (Tj.setTop (mkF m 36 #[.val (.ref oa), .val (.ref da), .val (.int (Int32.ofNat (2 ^ wN - 1))), .val (.int (Int32.ofNat dN)), .val (.ref b5), .val (.int (Int32.ofNat (SN wN uN by_ j))), .val (.int (Int32.ofNat j)), .unset] [])) (Own.Post s (Q2 Z oa da wv nv pv lv wN uN N dN pN by_ kD h0 n0) ({ frames := 1, cells := 2, slots := 267, locals := 17 } : Room).cells ({ frames := 1, cells := 2, slots := 267, locals := 17 } : Room).slots) := by
    intro dd
    induction dd with
    | zero =>
      intro j hjd Tj hj Lj g Xj ej Nj Zj Oj Vj0 Vj1 hg
      have hjd' : j = dN := by omega
      rw [hjd'] at hg ⊢
      show Own.Fin p e below (Tj.setTop (mkF m 36 #[.val (.ref oa), .val (.ref da), .val (.int (Int32.ofNat (2 ^ wN - 1))), .val (.int (Int32.ofNat dN)), .val (.ref b5), .val (.int (Int32.ofNat (SN wN uN by_ dN))), .val (.int (Int32.ofNat dN)), .unset] [])) _
      refine Own.go (fun t k => XS.iload Xj.here hx rfl (hb hby d2_36) rfl k) ?_
      show Own.Fin p e below (Tj.setTop (mkF m 38 #[.val (.ref oa), .val (.ref da), .val (.int (Int32.ofNat (2 ^ wN - 1))), .val (.int (Int32.ofNat dN)), .val (.ref b5), .val (.int (Int32.ofNat (SN wN uN by_ dN))), .val (.int (Int32.ofNat dN)), .unset] [(.int (Int32.ofNat dN))])) _
      refine Own.go (fun t k => XS.iloadN Xj.here hx rfl (hb hby d2_38) rfl k) ?_
      show Own.Fin p e below (Tj.setTop (mkF m 39 #[.val (.ref oa), .val (.ref da), .val (.int (Int32.ofNat (2 ^ wN - 1))), .val (.int (Int32.ofNat dN)), .val (.ref b5), .val (.int (Int32.ofNat (SN wN uN by_ dN))), .val (.int (Int32.ofNat dN)), .unset] [(.int (Int32.ofNat dN)), (.int (Int32.ofNat dN))])) _
      have hc39_7 : ¬ ((Int32.ofNat dN) < (Int32.ofNat dN)) := fun h => Nat.lt_irrefl _ ((i_lt dN dN (by omega) (by omega)).mp h)
      refine Own.go (fun t k => XS.icmpYes Xj.here hx rfl (pc0 := 39) (pc' := 72) rfl (hb hby d2_39) rfl (flt hc39_7).2.1 (by decide) (by decide) k) ?_
      show Own.Fin p e below (Tj.setTop (mkF m 72 #[.val (.ref oa), .val (.ref da), .val (.int (Int32.ofNat (2 ^ wN - 1))), .val (.int (Int32.ofNat dN)), .val (.ref b5), .val (.int (Int32.ofNat (SN wN uN by_ dN))), .val (.int (Int32.ofNat dN)), .unset] [])) _
      refine Own.go (fun t k => XS.iload Xj.here hx rfl (hb hby d2_72) rfl k) ?_
      show Own.Fin p e below (Tj.setTop (mkF m 74 #[.val (.ref oa), .val (.ref da), .val (.int (Int32.ofNat (2 ^ wN - 1))), .val (.int (Int32.ofNat dN)), .val (.ref b5), .val (.int (Int32.ofNat (SN wN uN by_ dN))), .val (.int (Int32.ofNat dN)), .unset] [(.int (Int32.ofNat (SN wN uN by_ dN)))])) _
      refine Own.go (fun t k => XS.aloadN Xj.here hx rfl (hb hby d2_74) rfl rfl k) ?_
      show Own.Fin p e below (Tj.setTop (mkF m 75 #[.val (.ref oa), .val (.ref da), .val (.int (Int32.ofNat (2 ^ wN - 1))), .val (.int (Int32.ofNat dN)), .val (.ref b5), .val (.int (Int32.ofNat (SN wN uN by_ dN))), .val (.int (Int32.ofNat dN)), .unset] [(.ref oa), (.int (Int32.ofNat (SN wN uN by_ dN)))])) _
      obtain ⟨T9, X9, e9, st9⟩ := getF Xj hx hZ hown (host := "") (Or.inl (hw _ (List.mem_of_getElem? (i := 24) rfl))) Via.refl ej (F_ls.ext Oj.2) (g := (mkF m 75 #[.val (.ref oa), .val (.ref da), .val (.int (Int32.ofNat (2 ^ wN - 1))), .val (.int (Int32.ofNat dN)), .val (.ref b5), .val (.int (Int32.ofNat (SN wN uN by_ dN))), .val (.int (Int32.ofNat dN)), .unset] [(.ref oa), (.int (Int32.ofNat (SN wN uN by_ dN)))])) rfl rfl (hb hby d2_75)
      refine Own.go st9 ?_
      show Own.Fin p e below (T9.setTop (mkF m 78 #[.val (.ref oa), .val (.ref da), .val (.int (Int32.ofNat (2 ^ wN - 1))), .val (.int (Int32.ofNat dN)), .val (.ref b5), .val (.int (Int32.ofNat (SN wN uN by_ dN))), .val (.int (Int32.ofNat dN)), .unset] [(.int lv), (.int (Int32.ofNat (SN wN uN by_ dN)))])) _
      refine Own.go (fun t k => XS.ishl X9.here hx rfl (hb hby d2_78) rfl k) ?_
      show Own.Fin p e below (T9.setTop (mkF m 79 #[.val (.ref oa), .val (.ref da), .val (.int (Int32.ofNat (2 ^ wN - 1))), .val (.int (Int32.ofNat dN)), .val (.ref b5), .val (.int (Int32.ofNat (SN wN uN by_ dN))), .val (.int (Int32.ofNat dN)), .unset] [(.int (((Int32.ofNat (SN wN uN by_ dN)) <<< (lv &&& 31))))])) _
      obtain ⟨cq, hcq⟩ : ∃ z, z = (((Int32.ofNat (SN wN uN by_ dN)) <<< (lv &&& 31))) := ⟨_, rfl⟩
      rw [← hcq]
      show Own.Fin p e below (T9.setTop (mkF m 79 #[.val (.ref oa), .val (.ref da), .val (.int (Int32.ofNat (2 ^ wN - 1))), .val (.int (Int32.ofNat dN)), .val (.ref b5), .val (.int (Int32.ofNat (SN wN uN by_ dN))), .val (.int (Int32.ofNat dN)), .unset] [(.int cq)])) _
      refine Own.go (fun t k => XS.istore X9.here hx rfl (hb hby d2_79) rfl (l' := #[.val (.ref oa), .val (.ref da), .val (.int (Int32.ofNat (2 ^ wN - 1))), .val (.int (Int32.ofNat dN)), .val (.ref b5), .val (.int cq), .val (.int (Int32.ofNat dN)), .unset]) rfl k) ?_
      show Own.Fin p e below (T9.setTop (mkF m 81 #[.val (.ref oa), .val (.ref da), .val (.int (Int32.ofNat (2 ^ wN - 1))), .val (.int (Int32.ofNat dN)), .val (.ref b5), .val (.int cq), .val (.int (Int32.ofNat dN)), .unset] [])) _
      refine Own.go (fun t k => XS.iconst X9.here hx rfl (hb hby d2_81) k) ?_
      show Own.Fin p e below (T9.setTop (mkF m 82 #[.val (.ref oa), .val (.ref da), .val (.int (Int32.ofNat (2 ^ wN - 1))), .val (.int (Int32.ofNat dN)), .val (.ref b5), .val (.int cq), .val (.int (Int32.ofNat dN)), .unset] [(.int (2 : Int32))])) _
      refine Own.newA X9 hx hZ (hw _ (List.mem_of_getElem? (i := 3) rfl)) e9 (hb hby d2_82) (by decide) 2 (by decide) (by decide) (by decide) (by decide) ?_
      intro T10 h10 b10 k10 X10 e10 E10 gb10 V10
      have ge10 : n0 ≤ b10 := by rw [gb10]; exact Zj
      have ne10_b5 : b5 ≠ b10 := Nat.ne_of_lt (Nat.lt_of_lt_of_le Vj1.lt (Nat.le_of_eq gb10.symm))
      have ne10_da : da ≠ b10 := Nat.ne_of_lt (Nat.lt_of_lt_of_le Vj0.lt (Nat.le_of_eq gb10.symm))
      have Z10 : n0 ≤ h10.size := Nat.le_trans Zj E10.1
      have f11 := Vj0.ext E10
      have f12 := Vj1.ext E10
      have O10 := Oj.ext E10
      have Vp10 : Arv Z h10 b10 k10 .byte (2 : Int32) [(.int (0 : Int32)), (.int (0 : Int32))] (.int (0 : Int32)) := Arv.pad V10 (pad_rep [] (.int (0 : Int32)) 2)
      show Own.Fin p e below (T10.setTop (mkF m 84 #[.val (.ref oa), .val (.ref da), .val (.int (Int32.ofNat (2 ^ wN - 1))), .val (.int (Int32.ofNat dN)), .val (.ref b5), .val (.int cq), .val (.int (Int32.ofNat dN)), .unset] [(.ref b10)])) _
      refine Own.go (fun t k => XS.dup X10.here hx rfl (hb hby d2_84) rfl rfl k) ?_
      show Own.Fin p e below (T10.setTop (mkF m 85 #[.val (.ref oa), .val (.ref da), .val (.int (Int32.ofNat (2 ^ wN - 1))), .val (.int (Int32.ofNat dN)), .val (.ref b5), .val (.int cq), .val (.int (Int32.ofNat dN)), .unset] [(.ref b10), (.ref b10)])) _
      refine Own.go (fun t k => XS.iconst X10.here hx rfl (hb hby d2_85) k) ?_
      show Own.Fin p e below (T10.setTop (mkF m 86 #[.val (.ref oa), .val (.ref da), .val (.int (Int32.ofNat (2 ^ wN - 1))), .val (.int (Int32.ofNat dN)), .val (.ref b5), .val (.int cq), .val (.int (Int32.ofNat dN)), .unset] [(.int (0 : Int32)), (.ref b10), (.ref b10)])) _
      refine Own.go (fun t k => XS.iload X10.here hx rfl (hb hby d2_86) rfl k) ?_
      show Own.Fin p e below (T10.setTop (mkF m 88 #[.val (.ref oa), .val (.ref da), .val (.int (Int32.ofNat (2 ^ wN - 1))), .val (.int (Int32.ofNat dN)), .val (.ref b5), .val (.int cq), .val (.int (Int32.ofNat dN)), .unset] [(.int cq), (.int (0 : Int32)), (.ref b10), (.ref b10)])) _
      refine Own.go (fun t k => XS.bipush X10.here hx rfl (hb hby d2_88) k) ?_
      show Own.Fin p e below (T10.setTop (mkF m 90 #[.val (.ref oa), .val (.ref da), .val (.int (Int32.ofNat (2 ^ wN - 1))), .val (.int (Int32.ofNat dN)), .val (.ref b5), .val (.int cq), .val (.int (Int32.ofNat dN)), .unset] [(.int (8 : Int32)), (.int cq), (.int (0 : Int32)), (.ref b10), (.ref b10)])) _
      refine Own.go (fun t k => XS.iushr X10.here hx rfl (hb hby d2_90) rfl k) ?_
      show Own.Fin p e below (T10.setTop (mkF m 91 #[.val (.ref oa), .val (.ref da), .val (.int (Int32.ofNat (2 ^ wN - 1))), .val (.int (Int32.ofNat dN)), .val (.ref b5), .val (.int cq), .val (.int (Int32.ofNat dN)), .unset] [(.int (((cq).toUInt32 >>> ((8 : Int32) &&& 31).toUInt32).toInt32)), (.int (0 : Int32)), (.ref b10), (.ref b10)])) _
      refine Own.go (fun t k => XS.i2b X10.here hx rfl (hb hby d2_91) rfl k) ?_
      show Own.Fin p e below (T10.setTop (mkF m 92 #[.val (.ref oa), .val (.ref da), .val (.int (Int32.ofNat (2 ^ wN - 1))), .val (.int (Int32.ofNat dN)), .val (.ref b5), .val (.int cq), .val (.int (Int32.ofNat dN)), .unset] [(.int (((((cq).toUInt32 >>> ((8 : Int32) &&& 31).toUInt32).toInt32)).toInt8.toInt32)), (.int (0 : Int32)), (.ref b10), (.ref b10)])) _
      refine Own.stB X10 hx hZ e10 Vp10 (hb hby d2_92) ⟨by decide, by decide⟩ 0 rfl (Nat.le_of_ble_eq_true rfl) ?_
      intro T13 h13 X13 e13 W13 V13
      have N13 := Fr.snoc X13 Nj ge10
      have Z13 : n0 ≤ h13.size := by rw [W13.size]; exact Z10
      have f14 := f11.other W13 ne10_da
      have f15 := f12.other W13 ne10_b5
      have O13 := O10.wr W13 ge10
      have Vq13 : Arv Z h13 b10 k10 .byte (2 : Int32) [(.int (nar .byte (((((cq).toUInt32 >>> ((8 : Int32) &&& 31).toUInt32).toInt32)).toInt8.toInt32))), (.int (0 : Int32))] (.int (0 : Int32)) := V13
      show Own.Fin p e below (T13.setTop (mkF m 93 #[.val (.ref oa), .val (.ref da), .val (.int (Int32.ofNat (2 ^ wN - 1))), .val (.int (Int32.ofNat dN)), .val (.ref b5), .val (.int cq), .val (.int (Int32.ofNat dN)), .unset] [(.ref b10)])) _
      refine Own.go (fun t k => XS.dup X13.here hx rfl (hb hby d2_93) rfl rfl k) ?_
      show Own.Fin p e below (T13.setTop (mkF m 94 #[.val (.ref oa), .val (.ref da), .val (.int (Int32.ofNat (2 ^ wN - 1))), .val (.int (Int32.ofNat dN)), .val (.ref b5), .val (.int cq), .val (.int (Int32.ofNat dN)), .unset] [(.ref b10), (.ref b10)])) _
      refine Own.go (fun t k => XS.iconst X13.here hx rfl (hb hby d2_94) k) ?_
      show Own.Fin p e below (T13.setTop (mkF m 95 #[.val (.ref oa), .val (.ref da), .val (.int (Int32.ofNat (2 ^ wN - 1))), .val (.int (Int32.ofNat dN)), .val (.ref b5), .val (.int cq), .val (.int (Int32.ofNat dN)), .unset] [(.int (1 : Int32)), (.ref b10), (.ref b10)])) _
      refine Own.go (fun t k => XS.iload X13.here hx rfl (hb hby d2_95) rfl k) ?_
      show Own.Fin p e below (T13.setTop (mkF m 97 #[.val (.ref oa), .val (.ref da), .val (.int (Int32.ofNat (2 ^ wN - 1))), .val (.int (Int32.ofNat dN)), .val (.ref b5), .val (.int cq), .val (.int (Int32.ofNat dN)), .unset] [(.int cq), (.int (1 : Int32)), (.ref b10), (.ref b10)])) _
      refine Own.go (fun t k => XS.i2b X13.here hx rfl (hb hby d2_97) rfl k) ?_
      show Own.Fin p e below (T13.setTop (mkF m 98 #[.val (.ref oa), .val (.ref da), .val (.int (Int32.ofNat (2 ^ wN - 1))), .val (.int (Int32.ofNat dN)), .val (.ref b5), .val (.int cq), .val (.int (Int32.ofNat dN)), .unset] [(.int ((cq).toInt8.toInt32)), (.int (1 : Int32)), (.ref b10), (.ref b10)])) _
      refine Own.stB X13 hx hZ e13 Vq13 (hb hby d2_98) ⟨by decide, by decide⟩ 1 rfl (Nat.le_of_ble_eq_true rfl) ?_
      intro T16 h16 X16 e16 W16 V16
      have N16 := Fr.snoc X16 N13 ge10
      have Z16 : n0 ≤ h16.size := by rw [W16.size]; exact Z13
      have f17 := f14.other W16 ne10_da
      have f18 := f15.other W16 ne10_b5
      have O16 := O13.wr W16 ge10
      have Vq16 : Arv Z h16 b10 k10 .byte (2 : Int32) [(.int (nar .byte (((((cq).toUInt32 >>> ((8 : Int32) &&& 31).toUInt32).toInt32)).toInt8.toInt32))), (.int (nar .byte ((cq).toInt8.toInt32)))] (.int (0 : Int32)) := V16
      show Own.Fin p e below (T16.setTop (mkF m 99 #[.val (.ref oa), .val (.ref da), .val (.int (Int32.ofNat (2 ^ wN - 1))), .val (.int (Int32.ofNat dN)), .val (.ref b5), .val (.int cq), .val (.int (Int32.ofNat dN)), .unset] [(.ref b10)])) _
      have Vt19 : Arv Z h16 b10 k10 .byte (2 : Int32) (tab 2 (fun k => Value.int (sb ((cb cq) k)))) (.int (0 : Int32)) := by
        rw [show tab 2 (fun k => Value.int (sb ((cb cq) k))) = [(.int (nar .byte (((((cq).toUInt32 >>> ((8 : Int32) &&& 31).toUInt32).toInt32)).toInt8.toInt32))), (.int (nar .byte ((cq).toInt8.toInt32)))] from cb_tab cq]; exact Vq16
      refine Own.go (fun t k => XS.astore X16.here hx rfl (hb hby d2_99) rfl rfl (l' := #[.val (.ref oa), .val (.ref da), .val (.int (Int32.ofNat (2 ^ wN - 1))), .val (.int (Int32.ofNat dN)), .val (.ref b5), .val (.int cq), .val (.ref b10), .unset]) rfl k) ?_
      show Own.Fin p e below (T16.setTop (mkF m 101 #[.val (.ref oa), .val (.ref da), .val (.int (Int32.ofNat (2 ^ wN - 1))), .val (.int (Int32.ofNat dN)), .val (.ref b5), .val (.int cq), .val (.ref b10), .unset] [])) _
      refine Own.go (fun t k => XS.iloadN X16.here hx rfl (hb hby d2_101) rfl k) ?_
      show Own.Fin p e below (T16.setTop (mkF m 102 #[.val (.ref oa), .val (.ref da), .val (.int (Int32.ofNat (2 ^ wN - 1))), .val (.int (Int32.ofNat dN)), .val (.ref b5), .val (.int cq), .val (.ref b10), .unset] [(.int (Int32.ofNat dN))])) _
      refine Own.go (fun t k => XS.istore X16.here hx rfl (hb hby d2_102) rfl (l' := #[.val (.ref oa), .val (.ref da), .val (.int (Int32.ofNat (2 ^ wN - 1))), .val (.int (Int32.ofNat dN)), .val (.ref b5), .val (.int cq), .val (.ref b10), .val (.int (Int32.ofNat dN))]) rfl k) ?_
      show Own.Fin p e below (T16.setTop (mkF m 104 #[.val (.ref oa), .val (.ref da), .val (.int (Int32.ofNat (2 ^ wN - 1))), .val (.int (Int32.ofNat dN)), .val (.ref b5), .val (.int cq), .val (.ref b10), .val (.int (Int32.ofNat dN))] [])) _
      have loop2 : ∀ (dd j : Nat) (hjd : j + dd = pN) (Tj : State) (hj : Heap) (Lj : List Loc) (g : Nat → Value) (Xj : Stand p l e ({ frames := 1, cells := 2, slots := 267, locals := 17 } : Room) s m #[(.ref oa), (.ref da)] below meth c Tj Lj 2 267) (ej : Tj.heap = hj) (Nj : Fr n0 Lj) (Zj : n0 ≤ hj.size) (Oj : Old Z n0 hj) (Vj0 : Arv Z hj da kD .byte nv (tab N (fun k => Value.int (sb (by_ k)))) (.int (0 : Int32))) (Vj1 : Arv Z hj b5 k5 .int pv (tab pN g) (.int (0 : Int32))) (Vj2 : Arv Z hj b10 k10 .byte (2 : Int32) (tab 2 (fun k => Value.int (sb ((cb cq) k)))) (.int (0 : Int32))) (hdj : dN ≤ j) (hg : ∀ i < j, g i = .int (Int32.ofNat (cN wN uN dN by_ (cb cq) i))), Own.Fin p e below (Tj.setTop (mkF m 104 #[.val (.ref oa), .val (.ref da), .val (.int (Int32.ofNat (2 ^ wN - 1))), .val (.int (Int32.ofNat dN)), .val (.ref b5), .val (.int cq), .val (.ref b10), .val (.int (Int32.ofNat j))] [])) (Own.Post s (Q2 Z oa da wv nv pv lv wN uN N dN pN by_ kD h0 n0) ({ frames := 1, cells := 2, slots := 267, locals := 17 } : Room).cells ({ frames := 1, cells := 2, slots := 267, locals := 17 } : Room).slots) := by
        intro dd
        induction dd with
        | zero =>
          intro j hjd Tj hj Lj g Xj ej Nj Zj Oj Vj0 Vj1 Vj2 hdj hg
          have hjd' : j = pN := by omega
          rw [hjd'] at hdj hg ⊢
          show Own.Fin p e below (Tj.setTop (mkF m 104 #[.val (.ref oa), .val (.ref da), .val (.int (Int32.ofNat (2 ^ wN - 1))), .val (.int (Int32.ofNat dN)), .val (.ref b5), .val (.int cq), .val (.ref b10), .val (.int (Int32.ofNat pN))] [])) _
          refine Own.go (fun t k => XS.iload Xj.here hx rfl (hb hby d2_104) rfl k) ?_
          show Own.Fin p e below (Tj.setTop (mkF m 106 #[.val (.ref oa), .val (.ref da), .val (.int (Int32.ofNat (2 ^ wN - 1))), .val (.int (Int32.ofNat dN)), .val (.ref b5), .val (.int cq), .val (.ref b10), .val (.int (Int32.ofNat pN))] [(.int (Int32.ofNat pN))])) _
          refine Own.go (fun t k => XS.aloadN Xj.here hx rfl (hb hby d2_106) rfl rfl k) ?_
          show Own.Fin p e below (Tj.setTop (mkF m 107 #[.val (.ref oa), .val (.ref da), .val (.int (Int32.ofNat (2 ^ wN - 1))), .val (.int (Int32.ofNat dN)), .val (.ref b5), .val (.int cq), .val (.ref b10), .val (.int (Int32.ofNat pN))] [(.ref oa), (.int (Int32.ofNat pN))])) _
          obtain ⟨T20, X20, e20, st20⟩ := getF Xj hx hZ hown (host := "") (Or.inl (hw _ (List.mem_of_getElem? (i := 17) rfl))) Via.refl ej (F_p.ext Oj.2) (g := (mkF m 107 #[.val (.ref oa), .val (.ref da), .val (.int (Int32.ofNat (2 ^ wN - 1))), .val (.int (Int32.ofNat dN)), .val (.ref b5), .val (.int cq), .val (.ref b10), .val (.int (Int32.ofNat pN))] [(.ref oa), (.int (Int32.ofNat pN))])) rfl rfl (hb hby d2_107)
          refine Own.go st20 ?_
          show Own.Fin p e below (T20.setTop (mkF m 110 #[.val (.ref oa), .val (.ref da), .val (.int (Int32.ofNat (2 ^ wN - 1))), .val (.int (Int32.ofNat dN)), .val (.ref b5), .val (.int cq), .val (.ref b10), .val (.int (Int32.ofNat pN))] [(.int pv), (.int (Int32.ofNat pN))])) _
          have hc110_20 : ¬ ((Int32.ofNat pN) < pv) := fun h => Nat.lt_irrefl _ ((i_lt pN pN (by omega) (by omega)).mp (by rw [fx5] at h; exact h))
          refine Own.go (fun t k => XS.icmpYes X20.here hx rfl (pc0 := 110) (pc' := 134) rfl (hb hby d2_110) rfl (flt hc110_20).2.1 (by decide) (by decide) k) ?_
          show Own.Fin p e below (T20.setTop (mkF m 134 #[.val (.ref oa), .val (.ref da), .val (.int (Int32.ofNat (2 ^ wN - 1))), .val (.int (Int32.ofNat dN)), .val (.ref b5), .val (.int cq), .val (.ref b10), .val (.int (Int32.ofNat pN))] [])) _
          refine Own.go (fun t k => XS.aload X20.here hx rfl (hb hby d2_134) rfl rfl k) ?_
          show Own.Fin p e below (T20.setTop (mkF m 136 #[.val (.ref oa), .val (.ref da), .val (.int (Int32.ofNat (2 ^ wN - 1))), .val (.int (Int32.ofNat dN)), .val (.ref b5), .val (.int cq), .val (.ref b10), .val (.int (Int32.ofNat pN))] [(.ref b5)])) _
          refine Own.retR X20 hx Bd.notSynchronized Bd.returns rfl rfl (hb hby d2_136) (by decide) (by decide) ?_
          exact ⟨b5, k5, g, ge5, rfl, Nj, by rw [e20]; exact Zj, by rw [e20]; exact Vj1, by rw [← hcq]; exact hg⟩
        | succ dd ih =>
          intro j hjd Tj hj Lj g Xj ej Nj Zj Oj Vj0 Vj1 Vj2 hdj hg
          show Own.Fin p e below (Tj.setTop (mkF m 104 #[.val (.ref oa), .val (.ref da), .val (.int (Int32.ofNat (2 ^ wN - 1))), .val (.int (Int32.ofNat dN)), .val (.ref b5), .val (.int cq), .val (.ref b10), .val (.int (Int32.ofNat j))] [])) _
          refine Own.go (fun t k => XS.iload Xj.here hx rfl (hb hby d2_104) rfl k) ?_
          show Own.Fin p e below (Tj.setTop (mkF m 106 #[.val (.ref oa), .val (.ref da), .val (.int (Int32.ofNat (2 ^ wN - 1))), .val (.int (Int32.ofNat dN)), .val (.ref b5), .val (.int cq), .val (.ref b10), .val (.int (Int32.ofNat j))] [(.int (Int32.ofNat j))])) _
          refine Own.go (fun t k => XS.aloadN Xj.here hx rfl (hb hby d2_106) rfl rfl k) ?_
          show Own.Fin p e below (Tj.setTop (mkF m 107 #[.val (.ref oa), .val (.ref da), .val (.int (Int32.ofNat (2 ^ wN - 1))), .val (.int (Int32.ofNat dN)), .val (.ref b5), .val (.int cq), .val (.ref b10), .val (.int (Int32.ofNat j))] [(.ref oa), (.int (Int32.ofNat j))])) _
          obtain ⟨T22, X22, e22, st22⟩ := getF Xj hx hZ hown (host := "") (Or.inl (hw _ (List.mem_of_getElem? (i := 17) rfl))) Via.refl ej (F_p.ext Oj.2) (g := (mkF m 107 #[.val (.ref oa), .val (.ref da), .val (.int (Int32.ofNat (2 ^ wN - 1))), .val (.int (Int32.ofNat dN)), .val (.ref b5), .val (.int cq), .val (.ref b10), .val (.int (Int32.ofNat j))] [(.ref oa), (.int (Int32.ofNat j))])) rfl rfl (hb hby d2_107)
          refine Own.go st22 ?_
          show Own.Fin p e below (T22.setTop (mkF m 110 #[.val (.ref oa), .val (.ref da), .val (.int (Int32.ofNat (2 ^ wN - 1))), .val (.int (Int32.ofNat dN)), .val (.ref b5), .val (.int cq), .val (.ref b10), .val (.int (Int32.ofNat j))] [(.int pv), (.int (Int32.ofNat j))])) _
          have hc110_22 : (Int32.ofNat j) < pv := by rw [fx5]; exact (i_lt j pN (by omega) (by omega)).mpr (by omega)
          refine Own.go (fun t k => XS.icmpNo X22.here hx rfl (hb hby d2_110) rfl (tlt hc110_22).2.1 k) ?_
          show Own.Fin p e below (T22.setTop (mkF m 113 #[.val (.ref oa), .val (.ref da), .val (.int (Int32.ofNat (2 ^ wN - 1))), .val (.int (Int32.ofNat dN)), .val (.ref b5), .val (.int cq), .val (.ref b10), .val (.int (Int32.ofNat j))] [])) _
          refine Own.go (fun t k => XS.aload X22.here hx rfl (hb hby d2_113) rfl rfl k) ?_
          show Own.Fin p e below (T22.setTop (mkF m 115 #[.val (.ref oa), .val (.ref da), .val (.int (Int32.ofNat (2 ^ wN - 1))), .val (.int (Int32.ofNat dN)), .val (.ref b5), .val (.int cq), .val (.ref b10), .val (.int (Int32.ofNat j))] [(.ref b5)])) _
          refine Own.go (fun t k => XS.iload X22.here hx rfl (hb hby d2_115) rfl k) ?_
          show Own.Fin p e below (T22.setTop (mkF m 117 #[.val (.ref oa), .val (.ref da), .val (.int (Int32.ofNat (2 ^ wN - 1))), .val (.int (Int32.ofNat dN)), .val (.ref b5), .val (.int cq), .val (.ref b10), .val (.int (Int32.ofNat j))] [(.int (Int32.ofNat j)), (.ref b5)])) _
          refine Own.go (fun t k => XS.aloadN X22.here hx rfl (hb hby d2_117) rfl rfl k) ?_
          show Own.Fin p e below (T22.setTop (mkF m 118 #[.val (.ref oa), .val (.ref da), .val (.int (Int32.ofNat (2 ^ wN - 1))), .val (.int (Int32.ofNat dN)), .val (.ref b5), .val (.int cq), .val (.ref b10), .val (.int (Int32.ofNat j))] [(.ref oa), (.int (Int32.ofNat j)), (.ref b5)])) _
          refine Own.go (fun t k => XS.aload X22.here hx rfl (hb hby d2_118) rfl rfl k) ?_
          show Own.Fin p e below (T22.setTop (mkF m 120 #[.val (.ref oa), .val (.ref da), .val (.int (Int32.ofNat (2 ^ wN - 1))), .val (.int (Int32.ofNat dN)), .val (.ref b5), .val (.int cq), .val (.ref b10), .val (.int (Int32.ofNat j))] [(.ref b10), (.ref oa), (.int (Int32.ofNat j)), (.ref b5)])) _
          refine Own.go (fun t k => XS.iload X22.here hx rfl (hb hby d2_120) rfl k) ?_
          show Own.Fin p e below (T22.setTop (mkF m 122 #[.val (.ref oa), .val (.ref da), .val (.int (Int32.ofNat (2 ^ wN - 1))), .val (.int (Int32.ofNat dN)), .val (.ref b5), .val (.int cq), .val (.ref b10), .val (.int (Int32.ofNat j))] [(.int (Int32.ofNat j)), (.ref b10), (.ref oa), (.int (Int32.ofNat j)), (.ref b5)])) _
          refine Own.go (fun t k => XS.iloadN X22.here hx rfl (hb hby d2_122) rfl k) ?_
          show Own.Fin p e below (T22.setTop (mkF m 123 #[.val (.ref oa), .val (.ref da), .val (.int (Int32.ofNat (2 ^ wN - 1))), .val (.int (Int32.ofNat dN)), .val (.ref b5), .val (.int cq), .val (.ref b10), .val (.int (Int32.ofNat j))] [(.int (Int32.ofNat dN)), (.int (Int32.ofNat j)), (.ref b10), (.ref oa), (.int (Int32.ofNat j)), (.ref b5)])) _
          refine Own.go (fun t k => XS.isub X22.here hx rfl (hb hby d2_123) rfl k) ?_
          show Own.Fin p e below (T22.setTop (mkF m 124 #[.val (.ref oa), .val (.ref da), .val (.int (Int32.ofNat (2 ^ wN - 1))), .val (.int (Int32.ofNat dN)), .val (.ref b5), .val (.int cq), .val (.ref b10), .val (.int (Int32.ofNat j))] [(.int ((Int32.ofNat j) - (Int32.ofNat dN))), (.ref b10), (.ref oa), (.int (Int32.ofNat j)), (.ref b5)])) _
          rw [show ((Int32.ofNat j) - (Int32.ofNat dN)) = (Int32.ofNat (j - dN)) from (Int32.ofNat_sub j dN (by omega)).symm]
          show Own.Fin p e below (T22.setTop (mkF m 124 #[.val (.ref oa), .val (.ref da), .val (.int (Int32.ofNat (2 ^ wN - 1))), .val (.int (Int32.ofNat dN)), .val (.ref b5), .val (.int cq), .val (.ref b10), .val (.int (Int32.ofNat j))] [(.int (Int32.ofNat (j - dN))), (.ref b10), (.ref oa), (.int (Int32.ofNat j)), (.ref b5)])) _
          have hq24 : (j - dN) / uN < 2 := Nat.div_lt_of_lt_mul (by omega)
          refine Own.cP X22 hx hZ hown (hw _ (List.mem_of_getElem? (i := 20) rfl)) (hw _ (List.mem_of_getElem? (i := 21) rfl)) (hw _ (List.mem_of_getElem? (i := 22) rfl)) (hw _ (List.mem_of_getElem? (i := 11) rfl)) rfl (hw _ (List.mem_of_getElem? (i := 1) rfl)) (hw _ (List.mem_of_getElem? (i := 23) rfl)) (by decide) (rm3 l Z a0 hw [] oa b10 (Int32.ofNat (j - dN)) wv (2 : Int32) wN uN 2 (j - dN) (cb cq) k10 hj n0 Zj Oj F_w Vj2 hw8 (by decide) (by decide) rfl (by omega) hq24 (cb_lt cq)) (by decide) (W := 2) (by decide) (argsL := [(.ref b10), (.int (Int32.ofNat (j - dN)))]) (rest := [(.int (Int32.ofNat j)), (.ref b5)]) (E0.ext Oj.2) (by rw [hml]; rfl) (lenOf pd_0 rfl) rfl (Nat.le_of_eq rfl) (hb hby d2_124) e22 (by decide) (by decide) ?_
          intro T24 L24 v24 X24 hQ24
          obtain ⟨rfl, N24q, e24⟩ := hQ24
          have N24 := Fr.app Nj N24q
          show Own.Fin p e below (T24.setTop (mkF m 127 #[.val (.ref oa), .val (.ref da), .val (.int (Int32.ofNat (2 ^ wN - 1))), .val (.int (Int32.ofNat dN)), .val (.ref b5), .val (.int cq), .val (.ref b10), .val (.int (Int32.ofNat j))] [(.int (Int32.ofNat (fN wN uN (cb cq) (j - dN)))), (.int (Int32.ofNat j)), (.ref b5)])) _
          refine stIT X24 hx hZ e24 Vj1 (hb hby d2_127) fx5 hpN j rfl (by omega) ?_
          intro T25 h25 X25 e25 W25 V25
          have N25 := Fr.snoc X25 N24 ge5
          have Z25 : n0 ≤ h25.size := by rw [W25.size]; exact Zj
          have f26 := Vj0.other W25 ne5_da
          have f27 := Vj2.other W25 (Ne.symm ne10_b5)
          have O25 := Oj.wr W25 ge5
          generalize hg25 : upd g _ _ = g25 at V25
          show Own.Fin p e below (T25.setTop (mkF m 128 #[.val (.ref oa), .val (.ref da), .val (.int (Int32.ofNat (2 ^ wN - 1))), .val (.int (Int32.ofNat dN)), .val (.ref b5), .val (.int cq), .val (.ref b10), .val (.int (Int32.ofNat j))] [])) _
          refine Own.go (fun t k => XS.iinc X25.here hx rfl (hb hby d2_128) rfl (l' := #[.val (.ref oa), .val (.ref da), .val (.int (Int32.ofNat (2 ^ wN - 1))), .val (.int (Int32.ofNat dN)), .val (.ref b5), .val (.int cq), .val (.ref b10), .val (.int ((Int32.ofNat j) + (1 : Int32)))]) rfl k) ?_
          show Own.Fin p e below (T25.setTop (mkF m 131 #[.val (.ref oa), .val (.ref da), .val (.int (Int32.ofNat (2 ^ wN - 1))), .val (.int (Int32.ofNat dN)), .val (.ref b5), .val (.int cq), .val (.ref b10), .val (.int ((Int32.ofNat j) + (1 : Int32)))] [])) _
          rw [show ((Int32.ofNat j) + (1 : Int32)) = (Int32.ofNat (j + 1)) from (Int32.ofNat_add j 1).symm]
          show Own.Fin p e below (T25.setTop (mkF m 131 #[.val (.ref oa), .val (.ref da), .val (.int (Int32.ofNat (2 ^ wN - 1))), .val (.int (Int32.ofNat dN)), .val (.ref b5), .val (.int cq), .val (.ref b10), .val (.int (Int32.ofNat (j + 1)))] [])) _
          refine Own.go (fun t k => XS.goto X25.here hx rfl (pc0 := 131) (pc' := 104) rfl (hb hby d2_131) (by decide) (by decide) k) ?_
          show Own.Fin p e below (T25.setTop (mkF m 104 #[.val (.ref oa), .val (.ref da), .val (.int (Int32.ofNat (2 ^ wN - 1))), .val (.int (Int32.ofNat dN)), .val (.ref b5), .val (.int cq), .val (.ref b10), .val (.int (Int32.ofNat (j + 1)))] [])) _
          refine ih (j + 1) (by omega) _ _ _ _ X25 e25 N25 Z25 O25 f26 V25 f27 (by omega) ?_
          intro i hi'
          rw [← hg25]
          simp only [upd]
          by_cases hq' : i = j
          · rw [if_pos hq', hq', cN, if_neg (by omega)]
          · rw [if_neg hq']; exact hg i (by omega)
      show Own.Fin p e below (T16.setTop (mkF m 104 #[.val (.ref oa), .val (.ref da), .val (.int (Int32.ofNat (2 ^ wN - 1))), .val (.int (Int32.ofNat dN)), .val (.ref b5), .val (.int cq), .val (.ref b10), .val (.int (Int32.ofNat dN))] [])) _
      exact loop2 (pN - dN) dN (by omega) _ _ _ _ X16 e16 N16 Z16 O16 f17 f18 Vt19 (Nat.le_refl _) (fun i hi => by rw [cN, if_pos hi]; exact hg i hi)
    | succ dd ih =>
      intro j hjd Tj hj Lj g Xj ej Nj Zj Oj Vj0 Vj1 hg
      show Own.Fin p e below (Tj.setTop (mkF m 36 #[.val (.ref oa), .val (.ref da), .val (.int (Int32.ofNat (2 ^ wN - 1))), .val (.int (Int32.ofNat dN)), .val (.ref b5), .val (.int (Int32.ofNat (SN wN uN by_ j))), .val (.int (Int32.ofNat j)), .unset] [])) _
      refine Own.go (fun t k => XS.iload Xj.here hx rfl (hb hby d2_36) rfl k) ?_
      show Own.Fin p e below (Tj.setTop (mkF m 38 #[.val (.ref oa), .val (.ref da), .val (.int (Int32.ofNat (2 ^ wN - 1))), .val (.int (Int32.ofNat dN)), .val (.ref b5), .val (.int (Int32.ofNat (SN wN uN by_ j))), .val (.int (Int32.ofNat j)), .unset] [(.int (Int32.ofNat j))])) _
      refine Own.go (fun t k => XS.iloadN Xj.here hx rfl (hb hby d2_38) rfl k) ?_
      show Own.Fin p e below (Tj.setTop (mkF m 39 #[.val (.ref oa), .val (.ref da), .val (.int (Int32.ofNat (2 ^ wN - 1))), .val (.int (Int32.ofNat dN)), .val (.ref b5), .val (.int (Int32.ofNat (SN wN uN by_ j))), .val (.int (Int32.ofNat j)), .unset] [(.int (Int32.ofNat dN)), (.int (Int32.ofNat j))])) _
      have hc39_27 : (Int32.ofNat j) < (Int32.ofNat dN) := (i_lt j dN (by omega) (by omega)).mpr (by omega)
      refine Own.go (fun t k => XS.icmpNo Xj.here hx rfl (hb hby d2_39) rfl (tlt hc39_27).2.1 k) ?_
      show Own.Fin p e below (Tj.setTop (mkF m 42 #[.val (.ref oa), .val (.ref da), .val (.int (Int32.ofNat (2 ^ wN - 1))), .val (.int (Int32.ofNat dN)), .val (.ref b5), .val (.int (Int32.ofNat (SN wN uN by_ j))), .val (.int (Int32.ofNat j)), .unset] [])) _
      refine Own.go (fun t k => XS.aload Xj.here hx rfl (hb hby d2_42) rfl rfl k) ?_
      show Own.Fin p e below (Tj.setTop (mkF m 44 #[.val (.ref oa), .val (.ref da), .val (.int (Int32.ofNat (2 ^ wN - 1))), .val (.int (Int32.ofNat dN)), .val (.ref b5), .val (.int (Int32.ofNat (SN wN uN by_ j))), .val (.int (Int32.ofNat j)), .unset] [(.ref b5)])) _
      refine Own.go (fun t k => XS.iload Xj.here hx rfl (hb hby d2_44) rfl k) ?_
      show Own.Fin p e below (Tj.setTop (mkF m 46 #[.val (.ref oa), .val (.ref da), .val (.int (Int32.ofNat (2 ^ wN - 1))), .val (.int (Int32.ofNat dN)), .val (.ref b5), .val (.int (Int32.ofNat (SN wN uN by_ j))), .val (.int (Int32.ofNat j)), .unset] [(.int (Int32.ofNat j)), (.ref b5)])) _
      refine Own.go (fun t k => XS.aloadN Xj.here hx rfl (hb hby d2_46) rfl rfl k) ?_
      show Own.Fin p e below (Tj.setTop (mkF m 47 #[.val (.ref oa), .val (.ref da), .val (.int (Int32.ofNat (2 ^ wN - 1))), .val (.int (Int32.ofNat dN)), .val (.ref b5), .val (.int (Int32.ofNat (SN wN uN by_ j))), .val (.int (Int32.ofNat j)), .unset] [(.ref oa), (.int (Int32.ofNat j)), (.ref b5)])) _
      refine Own.go (fun t k => XS.aloadN Xj.here hx rfl (hb hby d2_47) rfl rfl k) ?_
      show Own.Fin p e below (Tj.setTop (mkF m 48 #[.val (.ref oa), .val (.ref da), .val (.int (Int32.ofNat (2 ^ wN - 1))), .val (.int (Int32.ofNat dN)), .val (.ref b5), .val (.int (Int32.ofNat (SN wN uN by_ j))), .val (.int (Int32.ofNat j)), .unset] [(.ref da), (.ref oa), (.int (Int32.ofNat j)), (.ref b5)])) _
      refine Own.go (fun t k => XS.iload Xj.here hx rfl (hb hby d2_48) rfl k) ?_
      show Own.Fin p e below (Tj.setTop (mkF m 50 #[.val (.ref oa), .val (.ref da), .val (.int (Int32.ofNat (2 ^ wN - 1))), .val (.int (Int32.ofNat dN)), .val (.ref b5), .val (.int (Int32.ofNat (SN wN uN by_ j))), .val (.int (Int32.ofNat j)), .unset] [(.int (Int32.ofNat j)), (.ref da), (.ref oa), (.int (Int32.ofNat j)), (.ref b5)])) _
      have hq29 : j / uN < N := Nat.div_lt_of_lt_mul (by have : dN = N * uN := fx14; rw [Nat.mul_comm] at this; omega)
      refine Own.cP Xj hx hZ hown (hw _ (List.mem_of_getElem? (i := 20) rfl)) (hw _ (List.mem_of_getElem? (i := 21) rfl)) (hw _ (List.mem_of_getElem? (i := 22) rfl)) (hw _ (List.mem_of_getElem? (i := 11) rfl)) rfl (hw _ (List.mem_of_getElem? (i := 1) rfl)) (hw _ (List.mem_of_getElem? (i := 23) rfl)) (by decide) (rm3 l Z a0 hw [] oa da (Int32.ofNat j) wv nv wN uN N j by_ kD hj n0 Zj Oj F_w Vj0 hw8 fx6 hN32 rfl (by omega) hq29 hby8) (by decide) (W := 2) (by decide) (argsL := [(.ref da), (.int (Int32.ofNat j))]) (rest := [(.int (Int32.ofNat j)), (.ref b5)]) (E0.ext Oj.2) (by rw [hml]; rfl) (lenOf pd_0 rfl) rfl (Nat.le_of_eq rfl) (hb hby d2_50) ej (by decide) (by decide) ?_
      intro T29 L29 v29 X29 hQ29
      obtain ⟨rfl, N29q, e29⟩ := hQ29
      have N29 := Fr.app Nj N29q
      show Own.Fin p e below (T29.setTop (mkF m 53 #[.val (.ref oa), .val (.ref da), .val (.int (Int32.ofNat (2 ^ wN - 1))), .val (.int (Int32.ofNat dN)), .val (.ref b5), .val (.int (Int32.ofNat (SN wN uN by_ j))), .val (.int (Int32.ofNat j)), .unset] [(.int (Int32.ofNat (fN wN uN by_ j))), (.int (Int32.ofNat j)), (.ref b5)])) _
      refine stIT X29 hx hZ e29 Vj1 (hb hby d2_53) fx5 hpN j rfl (by omega) ?_
      intro T30 h30 X30 e30 W30 V30
      have N30 := Fr.snoc X30 N29 ge5
      have Z30 : n0 ≤ h30.size := by rw [W30.size]; exact Zj
      have f31 := Vj0.other W30 ne5_da
      have O30 := Oj.wr W30 ge5
      generalize hg30 : upd g _ _ = g30 at V30
      show Own.Fin p e below (T30.setTop (mkF m 54 #[.val (.ref oa), .val (.ref da), .val (.int (Int32.ofNat (2 ^ wN - 1))), .val (.int (Int32.ofNat dN)), .val (.ref b5), .val (.int (Int32.ofNat (SN wN uN by_ j))), .val (.int (Int32.ofNat j)), .unset] [])) _
      refine Own.go (fun t k => XS.iload X30.here hx rfl (hb hby d2_54) rfl k) ?_
      show Own.Fin p e below (T30.setTop (mkF m 56 #[.val (.ref oa), .val (.ref da), .val (.int (Int32.ofNat (2 ^ wN - 1))), .val (.int (Int32.ofNat dN)), .val (.ref b5), .val (.int (Int32.ofNat (SN wN uN by_ j))), .val (.int (Int32.ofNat j)), .unset] [(.int (Int32.ofNat (SN wN uN by_ j)))])) _
      refine Own.go (fun t k => XS.iloadN X30.here hx rfl (hb hby d2_56) rfl k) ?_
      show Own.Fin p e below (T30.setTop (mkF m 57 #[.val (.ref oa), .val (.ref da), .val (.int (Int32.ofNat (2 ^ wN - 1))), .val (.int (Int32.ofNat dN)), .val (.ref b5), .val (.int (Int32.ofNat (SN wN uN by_ j))), .val (.int (Int32.ofNat j)), .unset] [(.int (Int32.ofNat (2 ^ wN - 1))), (.int (Int32.ofNat (SN wN uN by_ j)))])) _
      refine Own.go (fun t k => XS.aload X30.here hx rfl (hb hby d2_57) rfl rfl k) ?_
      show Own.Fin p e below (T30.setTop (mkF m 59 #[.val (.ref oa), .val (.ref da), .val (.int (Int32.ofNat (2 ^ wN - 1))), .val (.int (Int32.ofNat dN)), .val (.ref b5), .val (.int (Int32.ofNat (SN wN uN by_ j))), .val (.int (Int32.ofNat j)), .unset] [(.ref b5), (.int (Int32.ofNat (2 ^ wN - 1))), (.int (Int32.ofNat (SN wN uN by_ j)))])) _
      refine Own.go (fun t k => XS.iload X30.here hx rfl (hb hby d2_59) rfl k) ?_
      show Own.Fin p e below (T30.setTop (mkF m 61 #[.val (.ref oa), .val (.ref da), .val (.int (Int32.ofNat (2 ^ wN - 1))), .val (.int (Int32.ofNat dN)), .val (.ref b5), .val (.int (Int32.ofNat (SN wN uN by_ j))), .val (.int (Int32.ofNat j)), .unset] [(.int (Int32.ofNat j)), (.ref b5), (.int (Int32.ofNat (2 ^ wN - 1))), (.int (Int32.ofNat (SN wN uN by_ j)))])) _
      refine ldIT (x := (Int32.ofNat (fN wN uN by_ j))) X30 hx hZ e30 V30 (hb hby d2_61) fx5 hpN j rfl (by omega) (by rw [← hg30]; simp only [upd, if_true]) ?_
      show Own.Fin p e below (T30.setTop (mkF m 62 #[.val (.ref oa), .val (.ref da), .val (.int (Int32.ofNat (2 ^ wN - 1))), .val (.int (Int32.ofNat dN)), .val (.ref b5), .val (.int (Int32.ofNat (SN wN uN by_ j))), .val (.int (Int32.ofNat j)), .unset] [(.int (Int32.ofNat (fN wN uN by_ j))), (.int (Int32.ofNat (2 ^ wN - 1))), (.int (Int32.ofNat (SN wN uN by_ j)))])) _
      refine Own.go (fun t k => XS.isub X30.here hx rfl (hb hby d2_62) rfl k) ?_
      show Own.Fin p e below (T30.setTop (mkF m 63 #[.val (.ref oa), .val (.ref da), .val (.int (Int32.ofNat (2 ^ wN - 1))), .val (.int (Int32.ofNat dN)), .val (.ref b5), .val (.int (Int32.ofNat (SN wN uN by_ j))), .val (.int (Int32.ofNat j)), .unset] [(.int ((Int32.ofNat (2 ^ wN - 1)) - (Int32.ofNat (fN wN uN by_ j)))), (.int (Int32.ofNat (SN wN uN by_ j)))])) _
      refine Own.go (fun t k => XS.iadd X30.here hx rfl (hb hby d2_63) rfl k) ?_
      show Own.Fin p e below (T30.setTop (mkF m 64 #[.val (.ref oa), .val (.ref da), .val (.int (Int32.ofNat (2 ^ wN - 1))), .val (.int (Int32.ofNat dN)), .val (.ref b5), .val (.int (Int32.ofNat (SN wN uN by_ j))), .val (.int (Int32.ofNat j)), .unset] [(.int ((Int32.ofNat (SN wN uN by_ j)) + ((Int32.ofNat (2 ^ wN - 1)) - (Int32.ofNat (fN wN uN by_ j)))))])) _
      rw [show ((Int32.ofNat (SN wN uN by_ j)) + ((Int32.ofNat (2 ^ wN - 1)) - (Int32.ofNat (fN wN uN by_ j)))) = (Int32.ofNat (SN wN uN by_ (j + 1))) from (SN_step wN uN by_ j)]
      show Own.Fin p e below (T30.setTop (mkF m 64 #[.val (.ref oa), .val (.ref da), .val (.int (Int32.ofNat (2 ^ wN - 1))), .val (.int (Int32.ofNat dN)), .val (.ref b5), .val (.int (Int32.ofNat (SN wN uN by_ j))), .val (.int (Int32.ofNat j)), .unset] [(.int (Int32.ofNat (SN wN uN by_ (j + 1))))])) _
      refine Own.go (fun t k => XS.istore X30.here hx rfl (hb hby d2_64) rfl (l' := #[.val (.ref oa), .val (.ref da), .val (.int (Int32.ofNat (2 ^ wN - 1))), .val (.int (Int32.ofNat dN)), .val (.ref b5), .val (.int (Int32.ofNat (SN wN uN by_ (j + 1)))), .val (.int (Int32.ofNat j)), .unset]) rfl k) ?_
      show Own.Fin p e below (T30.setTop (mkF m 66 #[.val (.ref oa), .val (.ref da), .val (.int (Int32.ofNat (2 ^ wN - 1))), .val (.int (Int32.ofNat dN)), .val (.ref b5), .val (.int (Int32.ofNat (SN wN uN by_ (j + 1)))), .val (.int (Int32.ofNat j)), .unset] [])) _
      refine Own.go (fun t k => XS.iinc X30.here hx rfl (hb hby d2_66) rfl (l' := #[.val (.ref oa), .val (.ref da), .val (.int (Int32.ofNat (2 ^ wN - 1))), .val (.int (Int32.ofNat dN)), .val (.ref b5), .val (.int (Int32.ofNat (SN wN uN by_ (j + 1)))), .val (.int ((Int32.ofNat j) + (1 : Int32))), .unset]) rfl k) ?_
      show Own.Fin p e below (T30.setTop (mkF m 69 #[.val (.ref oa), .val (.ref da), .val (.int (Int32.ofNat (2 ^ wN - 1))), .val (.int (Int32.ofNat dN)), .val (.ref b5), .val (.int (Int32.ofNat (SN wN uN by_ (j + 1)))), .val (.int ((Int32.ofNat j) + (1 : Int32))), .unset] [])) _
      rw [show ((Int32.ofNat j) + (1 : Int32)) = (Int32.ofNat (j + 1)) from (Int32.ofNat_add j 1).symm]
      show Own.Fin p e below (T30.setTop (mkF m 69 #[.val (.ref oa), .val (.ref da), .val (.int (Int32.ofNat (2 ^ wN - 1))), .val (.int (Int32.ofNat dN)), .val (.ref b5), .val (.int (Int32.ofNat (SN wN uN by_ (j + 1)))), .val (.int (Int32.ofNat (j + 1))), .unset] [])) _
      refine Own.go (fun t k => XS.goto X30.here hx rfl (pc0 := 69) (pc' := 36) rfl (hb hby d2_69) (by decide) (by decide) k) ?_
      show Own.Fin p e below (T30.setTop (mkF m 36 #[.val (.ref oa), .val (.ref da), .val (.int (Int32.ofNat (2 ^ wN - 1))), .val (.int (Int32.ofNat dN)), .val (.ref b5), .val (.int (Int32.ofNat (SN wN uN by_ (j + 1)))), .val (.int (Int32.ofNat (j + 1))), .unset] [])) _
      refine ih (j + 1) (by omega) _ _ _ _ X30 e30 N30 Z30 O30 f31 V30 ?_
      intro i hi'
      rw [← hg30]
      simp only [upd]
      by_cases hq' : i = j
      · rw [if_pos hq', hq']
      · rw [if_neg hq']; exact hg i (by omega)
  show Own.Fin p e below (T5.setTop (mkF m 36 #[.val (.ref oa), .val (.ref da), .val (.int (Int32.ofNat (2 ^ wN - 1))), .val (.int (Int32.ofNat dN)), .val (.ref b5), .val (.int (Int32.ofNat (SN wN uN by_ 0))), .val (.int (Int32.ofNat 0)), .unset] [])) _
  exact loop1 dN 0 (by omega) _ _ _ _ X5 e5 N0 Z5 O5 f6 Vt7 (fun i hi => absurd hi (Nat.not_lt_zero i))
theorem d4_0 : decode method_3_code 0 = .ok (.lload_n 0, 1) := by decide +kernel
theorem d4_1 : decode method_3_code 1 = .ok (.lstore_n 3, 1) := by decide +kernel
theorem d4_2 : decode method_3_code 2 = .ok (.iload_n 2, 1) := by decide +kernel
theorem d4_3 : decode method_3_code 3 = .ok (.iconst 1, 1) := by decide +kernel
theorem d4_4 : decode method_3_code 4 = .ok (.if_icmp .ne 17, 3) := by decide +kernel
theorem d4_7 : decode method_3_code 7 = .ok (.lload_n 3, 1) := by decide +kernel
theorem d4_8 : decode method_3_code 8 = .ok (.ldc2_w 7, 3) := by decide +kernel
theorem d4_11 : decode method_3_code 11 = .ok (.land, 1) := by decide +kernel
theorem d4_12 : decode method_3_code 12 = .ok (.lload_n 3, 1) := by decide +kernel
theorem d4_13 : decode method_3_code 13 = .ok (.iconst 1, 1) := by decide +kernel
theorem d4_14 : decode method_3_code 14 = .ok (.lushr, 1) := by decide +kernel
theorem d4_15 : decode method_3_code 15 = .ok (.ldc2_w 7, 3) := by decide +kernel
theorem d4_18 : decode method_3_code 18 = .ok (.land, 1) := by decide +kernel
theorem d4_19 : decode method_3_code 19 = .ok (.ladd, 1) := by decide +kernel
theorem d4_20 : decode method_3_code 20 = .ok (.lstore_n 3, 1) := by decide +kernel
theorem d4_21 : decode method_3_code 21 = .ok (.iload_n 2, 1) := by decide +kernel
theorem d4_22 : decode method_3_code 22 = .ok (.iconst 2, 1) := by decide +kernel
theorem d4_23 : decode method_3_code 23 = .ok (.if_icmp .gt 17, 3) := by decide +kernel
theorem d4_26 : decode method_3_code 26 = .ok (.lload_n 3, 1) := by decide +kernel
theorem d4_27 : decode method_3_code 27 = .ok (.ldc2_w 9, 3) := by decide +kernel
theorem d4_30 : decode method_3_code 30 = .ok (.land, 1) := by decide +kernel
theorem d4_31 : decode method_3_code 31 = .ok (.lload_n 3, 1) := by decide +kernel
theorem d4_32 : decode method_3_code 32 = .ok (.iconst 2, 1) := by decide +kernel
theorem d4_33 : decode method_3_code 33 = .ok (.lushr, 1) := by decide +kernel
theorem d4_34 : decode method_3_code 34 = .ok (.ldc2_w 9, 3) := by decide +kernel
theorem d4_37 : decode method_3_code 37 = .ok (.land, 1) := by decide +kernel
theorem d4_38 : decode method_3_code 38 = .ok (.ladd, 1) := by decide +kernel
theorem d4_39 : decode method_3_code 39 = .ok (.lstore_n 3, 1) := by decide +kernel
theorem d4_40 : decode method_3_code 40 = .ok (.iload_n 2, 1) := by decide +kernel
theorem d4_41 : decode method_3_code 41 = .ok (.iconst 4, 1) := by decide +kernel
theorem d4_42 : decode method_3_code 42 = .ok (.if_icmp .gt 17, 3) := by decide +kernel
theorem d4_45 : decode method_3_code 45 = .ok (.lload_n 3, 1) := by decide +kernel
theorem d4_46 : decode method_3_code 46 = .ok (.ldc2_w 11, 3) := by decide +kernel
theorem d4_49 : decode method_3_code 49 = .ok (.land, 1) := by decide +kernel
theorem d4_50 : decode method_3_code 50 = .ok (.lload_n 3, 1) := by decide +kernel
theorem d4_51 : decode method_3_code 51 = .ok (.iconst 4, 1) := by decide +kernel
theorem d4_52 : decode method_3_code 52 = .ok (.lushr, 1) := by decide +kernel
theorem d4_53 : decode method_3_code 53 = .ok (.ldc2_w 11, 3) := by decide +kernel
theorem d4_56 : decode method_3_code 56 = .ok (.land, 1) := by decide +kernel
theorem d4_57 : decode method_3_code 57 = .ok (.ladd, 1) := by decide +kernel
theorem d4_58 : decode method_3_code 58 = .ok (.lstore_n 3, 1) := by decide +kernel
theorem d4_59 : decode method_3_code 59 = .ok (.lload_n 3, 1) := by decide +kernel
theorem d4_60 : decode method_3_code 60 = .ok (.ldc2_w 13, 3) := by decide +kernel
theorem d4_63 : decode method_3_code 63 = .ok (.land, 1) := by decide +kernel
theorem d4_64 : decode method_3_code 64 = .ok (.lload_n 3, 1) := by decide +kernel
theorem d4_65 : decode method_3_code 65 = .ok (.bipush 8, 2) := by decide +kernel
theorem d4_67 : decode method_3_code 67 = .ok (.lushr, 1) := by decide +kernel
theorem d4_68 : decode method_3_code 68 = .ok (.ldc2_w 13, 3) := by decide +kernel
theorem d4_71 : decode method_3_code 71 = .ok (.land, 1) := by decide +kernel
theorem d4_72 : decode method_3_code 72 = .ok (.ladd, 1) := by decide +kernel
theorem d4_73 : decode method_3_code 73 = .ok (.lstore_n 3, 1) := by decide +kernel
theorem d4_74 : decode method_3_code 74 = .ok (.lload_n 3, 1) := by decide +kernel
theorem d4_75 : decode method_3_code 75 = .ok (.ldc2_w 15, 3) := by decide +kernel
theorem d4_78 : decode method_3_code 78 = .ok (.land, 1) := by decide +kernel
theorem d4_79 : decode method_3_code 79 = .ok (.lload_n 3, 1) := by decide +kernel
theorem d4_80 : decode method_3_code 80 = .ok (.bipush 16, 2) := by decide +kernel
theorem d4_82 : decode method_3_code 82 = .ok (.lushr, 1) := by decide +kernel
theorem d4_83 : decode method_3_code 83 = .ok (.ldc2_w 15, 3) := by decide +kernel
theorem d4_86 : decode method_3_code 86 = .ok (.land, 1) := by decide +kernel
theorem d4_87 : decode method_3_code 87 = .ok (.ladd, 1) := by decide +kernel
theorem d4_88 : decode method_3_code 88 = .ok (.lstore_n 3, 1) := by decide +kernel
theorem d4_89 : decode method_3_code 89 = .ok (.lload_n 3, 1) := by decide +kernel
theorem d4_90 : decode method_3_code 90 = .ok (.ldc2_w 17, 3) := by decide +kernel
theorem d4_93 : decode method_3_code 93 = .ok (.land, 1) := by decide +kernel
theorem d4_94 : decode method_3_code 94 = .ok (.lload_n 3, 1) := by decide +kernel
theorem d4_95 : decode method_3_code 95 = .ok (.bipush 32, 2) := by decide +kernel
theorem d4_97 : decode method_3_code 97 = .ok (.lushr, 1) := by decide +kernel
theorem d4_98 : decode method_3_code 98 = .ok (.ladd, 1) := by decide +kernel
theorem d4_99 : decode method_3_code 99 = .ok (.l2i, 1) := by decide +kernel
theorem d4_100 : decode method_3_code 100 = .ok (.ireturn, 1) := by decide +kernel
theorem pn_4 : plainName "com/example/treadle/treadle/LmOtsTypeCoefficientsPinLaw" = true := by first | (simp [plainName, overriddenIn]; done) | decide +kernel
theorem ef_4 (m : MethodId) (q1 : Int64) (p2 : Int32) : entryFrame m #[(.long q1), (.int p2)] 5 = mkF m 0 #[.val (.long q1), .second, .val (.int p2), .unset, .unset] [] := by first | (simp [entryFrame, mkF, argsToLocals, Value.category]; done) | rfl
def Q4 (Z : State) (q1 : Int64) (p2 : Int32)  (h0 : Heap) (n0 : Nat) : Option Value → Heap → List Loc → Prop := fun v h L => v = some (.int (F_fs q1 p2)) ∧ Fr n0 L ∧ h = h0
set_option maxRecDepth 65536 in
set_option maxHeartbeats 40000000 in
theorem rm4 (l : Launch) (Z : State) (a0 : Array Value) (hw : ∀ d ∈ tables_1, d.before a0 Z = true) (ws : List Jvm.Cond) (q1 : Int64) (p2 : Int32)  (h0 : Heap) (n0 : Nat) (Z0 : n0 ≤ h0.size)  :
    MetFree l (⟨"com/example/treadle/treadle/LmOtsTypeCoefficientsPinLaw", "fieldSum", "(JI)I"⟩ : MethodName) (head1 (Jvm.Cond.code (⟨"com/example/treadle/treadle/LmOtsTypeCoefficientsPinLaw", "fieldSum", "(JI)I"⟩ : MethodName) method_3_code 5 (some .int) :: ws) ({ frames := 0, cells := 0, slots := 0, locals := 0 } : Room)) (fun a U => a = #[(.long q1), (.int p2)] ∧ Z.Warmed39 U.vm ∧ U.heap = h0) (fun _ _ _ _ _ => True) (fun _ U o U' => ∃ v L, o = .returned v ∧ (Q4 Z q1 p2 h0 n0) v U'.heap L ∧ FrameEnd U o U' L ({ frames := 0, cells := 0, slots := 0, locals := 0 } : Room).cells ({ frames := 0, cells := 0, slots := 0, locals := 0 } : Room).slots) := by
  refine MetFree.of_bodySF (plainFor_of_name pn_4) hisR ?_
  intro p e s m args below meth c s₁ Bd hml0 hP hK
  obtain ⟨rfl, hZ, hh⟩ := hP
  have hx := Bd.exec
  have hby := Bd.bytes
  have hml : c.maxLocals = 5 := hml0
  have hown : s.vm.findClass "com/example/treadle/treadle/LmOtsTypeCoefficientsPinLaw" = some m.cls := findClass_of_methodNamed Bd.named
  have hnm := (name_of_methodNamed Bd.named Bd.method).1
  have X0 : Stand p l e ({ frames := 0, cells := 0, slots := 0, locals := 0 } : Room) s m #[(.long q1), (.int p2)] below meth c s₁ [] 0 0 := Stand.of_body Bd
  have e0 : s₁.heap = h0 := by rw [← hh, Bd.state]; rfl
  have N0 := Fr.nil n0
  show Own.Fin p e below _ (Own.Post s (Q4 Z q1 p2 h0 n0) ({ frames := 0, cells := 0, slots := 0, locals := 0 } : Room).cells ({ frames := 0, cells := 0, slots := 0, locals := 0 } : Room).slots)
  refine Own.start (ef_4 m q1 p2) ?_
  show Own.Fin p e below (s₁.setTop (mkF m 0 #[.val (.long q1), .second, .val (.int p2), .unset, .unset] [])) _
  refine Own.go (fun t k => XS.lloadN X0.here hx rfl (hb hby d4_0) rfl k) ?_
  show Own.Fin p e below (s₁.setTop (mkF m 1 #[.val (.long q1), .second, .val (.int p2), .unset, .unset] [(.long q1)])) _
  refine Own.go (fun t k => XS.lstoreN X0.here hx rfl (hb hby d4_1) rfl (l' := #[.val (.long q1), .second, .val (.int p2), .val (.long q1), .second]) rfl k) ?_
  show Own.Fin p e below (s₁.setTop (mkF m 2 #[.val (.long q1), .second, .val (.int p2), .val (.long q1), .second] [])) _
  refine Own.go (fun t k => XS.iloadN X0.here hx rfl (hb hby d4_2) rfl k) ?_
  show Own.Fin p e below (s₁.setTop (mkF m 3 #[.val (.long q1), .second, .val (.int p2), .val (.long q1), .second] [(.int p2)])) _
  refine Own.go (fun t k => XS.iconst X0.here hx rfl (hb hby d4_3) k) ?_
  show Own.Fin p e below (s₁.setTop (mkF m 4 #[.val (.long q1), .second, .val (.int p2), .val (.long q1), .second] [(.int (1 : Int32)), (.int p2)])) _
  by_cases hc4_0 : p2 = (1 : Int32)
  · skip
    refine Own.go (fun t k => XS.icmpNo X0.here hx rfl (hb hby d4_4) rfl (teq hc4_0).2 k) ?_
    show Own.Fin p e below (s₁.setTop (mkF m 7 #[.val (.long q1), .second, .val (.int p2), .val (.long q1), .second] [])) _
    refine Own.go (fun t k => XS.lloadN X0.here hx rfl (hb hby d4_7) rfl k) ?_
    show Own.Fin p e below (s₁.setTop (mkF m 8 #[.val (.long q1), .second, .val (.int p2), .val (.long q1), .second] [(.long q1)])) _
    refine Own.go (fun t k => X0.ldc2Long hx hown (mvT hZ (hw _ (List.mem_of_getElem? (i := 48) rfl))) (g := (mkF m 8 #[.val (.long q1), .second, .val (.int p2), .val (.long q1), .second] [(.long q1)])) rfl (hb hby d4_8) _ k) ?_
    show Own.Fin p e below (s₁.setTop (mkF m 11 #[.val (.long q1), .second, .val (.int p2), .val (.long q1), .second] [(.long (6148914691236517205 : Int64)), (.long q1)])) _
    refine Own.go (fun t k => XS.land X0.here hx rfl (hb hby d4_11) rfl k) ?_
    show Own.Fin p e below (s₁.setTop (mkF m 12 #[.val (.long q1), .second, .val (.int p2), .val (.long q1), .second] [(.long (q1 &&& (6148914691236517205 : Int64)))])) _
    refine Own.go (fun t k => XS.lloadN X0.here hx rfl (hb hby d4_12) rfl k) ?_
    show Own.Fin p e below (s₁.setTop (mkF m 13 #[.val (.long q1), .second, .val (.int p2), .val (.long q1), .second] [(.long q1), (.long (q1 &&& (6148914691236517205 : Int64)))])) _
    refine Own.go (fun t k => XS.iconst X0.here hx rfl (hb hby d4_13) k) ?_
    show Own.Fin p e below (s₁.setTop (mkF m 14 #[.val (.long q1), .second, .val (.int p2), .val (.long q1), .second] [(.int (1 : Int32)), (.long q1), (.long (q1 &&& (6148914691236517205 : Int64)))])) _
    refine Own.go (fun t k => XS.lushr X0.here hx rfl (hb hby d4_14) rfl k) ?_
    show Own.Fin p e below (s₁.setTop (mkF m 15 #[.val (.long q1), .second, .val (.int p2), .val (.long q1), .second] [(.long (((q1).toUInt64 >>> ((1 : Int32) &&& 0x3f).toInt64.toUInt64).toInt64)), (.long (q1 &&& (6148914691236517205 : Int64)))])) _
    refine Own.go (fun t k => X0.ldc2Long hx hown (mvT hZ (hw _ (List.mem_of_getElem? (i := 48) rfl))) (g := (mkF m 15 #[.val (.long q1), .second, .val (.int p2), .val (.long q1), .second] [(.long (((q1).toUInt64 >>> ((1 : Int32) &&& 0x3f).toInt64.toUInt64).toInt64)), (.long (q1 &&& (6148914691236517205 : Int64)))])) rfl (hb hby d4_15) _ k) ?_
    show Own.Fin p e below (s₁.setTop (mkF m 18 #[.val (.long q1), .second, .val (.int p2), .val (.long q1), .second] [(.long (6148914691236517205 : Int64)), (.long (((q1).toUInt64 >>> ((1 : Int32) &&& 0x3f).toInt64.toUInt64).toInt64)), (.long (q1 &&& (6148914691236517205 : Int64)))])) _
    refine Own.go (fun t k => XS.land X0.here hx rfl (hb hby d4_18) rfl k) ?_
    show Own.Fin p e below (s₁.setTop (mkF m 19 #[.val (.long q1), .second, .val (.int p2), .val (.long q1), .second] [(.long ((((q1).toUInt64 >>> ((1 : Int32) &&& 0x3f).toInt64.toUInt64).toInt64) &&& (6148914691236517205 : Int64))), (.long (q1 &&& (6148914691236517205 : Int64)))])) _
    refine Own.go (fun t k => XS.ladd X0.here hx rfl (hb hby d4_19) rfl k) ?_
    show Own.Fin p e below (s₁.setTop (mkF m 20 #[.val (.long q1), .second, .val (.int p2), .val (.long q1), .second] [(.long ((q1 &&& (6148914691236517205 : Int64)) + ((((q1).toUInt64 >>> ((1 : Int32) &&& 0x3f).toInt64.toUInt64).toInt64) &&& (6148914691236517205 : Int64))))])) _
    show Own.Fin p e below (s₁.setTop (mkF m 20 #[.val (.long q1), .second, .val (.int p2), .val (.long q1), .second] [(.long (S1 q1))])) _
    refine Own.go (fun t k => XS.lstoreN X0.here hx rfl (hb hby d4_20) rfl (l' := #[.val (.long q1), .second, .val (.int p2), .val (.long (S1 q1)), .second]) rfl k) ?_
    show Own.Fin p e below (s₁.setTop (mkF m 21 #[.val (.long q1), .second, .val (.int p2), .val (.long (S1 q1)), .second] [])) _
    refine Own.go (fun t k => XS.iloadN X0.here hx rfl (hb hby d4_21) rfl k) ?_
    show Own.Fin p e below (s₁.setTop (mkF m 22 #[.val (.long q1), .second, .val (.int p2), .val (.long (S1 q1)), .second] [(.int p2)])) _
    refine Own.go (fun t k => XS.iconst X0.here hx rfl (hb hby d4_22) k) ?_
    show Own.Fin p e below (s₁.setTop (mkF m 23 #[.val (.long q1), .second, .val (.int p2), .val (.long (S1 q1)), .second] [(.int (2 : Int32)), (.int p2)])) _
    by_cases hc23_1 : (2 : Int32) < p2
    · skip
      refine Own.go (fun t k => XS.icmpYes X0.here hx rfl (pc0 := 23) (pc' := 40) rfl (hb hby d4_23) rfl (tlt hc23_1).2.2.1 (by decide) (by decide) k) ?_
      show Own.Fin p e below (s₁.setTop (mkF m 40 #[.val (.long q1), .second, .val (.int p2), .val (.long (S1 q1)), .second] [])) _
      refine Own.go (fun t k => XS.iloadN X0.here hx rfl (hb hby d4_40) rfl k) ?_
      show Own.Fin p e below (s₁.setTop (mkF m 41 #[.val (.long q1), .second, .val (.int p2), .val (.long (S1 q1)), .second] [(.int p2)])) _
      refine Own.go (fun t k => XS.iconst X0.here hx rfl (hb hby d4_41) k) ?_
      show Own.Fin p e below (s₁.setTop (mkF m 42 #[.val (.long q1), .second, .val (.int p2), .val (.long (S1 q1)), .second] [(.int (4 : Int32)), (.int p2)])) _
      by_cases hc42_2 : (4 : Int32) < p2
      · skip
        refine Own.go (fun t k => XS.icmpYes X0.here hx rfl (pc0 := 42) (pc' := 59) rfl (hb hby d4_42) rfl (tlt hc42_2).2.2.1 (by decide) (by decide) k) ?_
        show Own.Fin p e below (s₁.setTop (mkF m 59 #[.val (.long q1), .second, .val (.int p2), .val (.long (S1 q1)), .second] [])) _
        refine Own.go (fun t k => XS.lloadN X0.here hx rfl (hb hby d4_59) rfl k) ?_
        show Own.Fin p e below (s₁.setTop (mkF m 60 #[.val (.long q1), .second, .val (.int p2), .val (.long (S1 q1)), .second] [(.long (S1 q1))])) _
        refine Own.go (fun t k => X0.ldc2Long hx hown (mvT hZ (hw _ (List.mem_of_getElem? (i := 29) rfl))) (g := (mkF m 60 #[.val (.long q1), .second, .val (.int p2), .val (.long (S1 q1)), .second] [(.long (S1 q1))])) rfl (hb hby d4_60) _ k) ?_
        show Own.Fin p e below (s₁.setTop (mkF m 63 #[.val (.long q1), .second, .val (.int p2), .val (.long (S1 q1)), .second] [(.long (71777214294589695 : Int64)), (.long (S1 q1))])) _
        refine Own.go (fun t k => XS.land X0.here hx rfl (hb hby d4_63) rfl k) ?_
        show Own.Fin p e below (s₁.setTop (mkF m 64 #[.val (.long q1), .second, .val (.int p2), .val (.long (S1 q1)), .second] [(.long ((S1 q1) &&& (71777214294589695 : Int64)))])) _
        refine Own.go (fun t k => XS.lloadN X0.here hx rfl (hb hby d4_64) rfl k) ?_
        show Own.Fin p e below (s₁.setTop (mkF m 65 #[.val (.long q1), .second, .val (.int p2), .val (.long (S1 q1)), .second] [(.long (S1 q1)), (.long ((S1 q1) &&& (71777214294589695 : Int64)))])) _
        refine Own.go (fun t k => XS.bipush X0.here hx rfl (hb hby d4_65) k) ?_
        show Own.Fin p e below (s₁.setTop (mkF m 67 #[.val (.long q1), .second, .val (.int p2), .val (.long (S1 q1)), .second] [(.int (8 : Int32)), (.long (S1 q1)), (.long ((S1 q1) &&& (71777214294589695 : Int64)))])) _
        refine Own.go (fun t k => XS.lushr X0.here hx rfl (hb hby d4_67) rfl k) ?_
        show Own.Fin p e below (s₁.setTop (mkF m 68 #[.val (.long q1), .second, .val (.int p2), .val (.long (S1 q1)), .second] [(.long ((((S1 q1)).toUInt64 >>> ((8 : Int32) &&& 0x3f).toInt64.toUInt64).toInt64)), (.long ((S1 q1) &&& (71777214294589695 : Int64)))])) _
        refine Own.go (fun t k => X0.ldc2Long hx hown (mvT hZ (hw _ (List.mem_of_getElem? (i := 29) rfl))) (g := (mkF m 68 #[.val (.long q1), .second, .val (.int p2), .val (.long (S1 q1)), .second] [(.long ((((S1 q1)).toUInt64 >>> ((8 : Int32) &&& 0x3f).toInt64.toUInt64).toInt64)), (.long ((S1 q1) &&& (71777214294589695 : Int64)))])) rfl (hb hby d4_68) _ k) ?_
        show Own.Fin p e below (s₁.setTop (mkF m 71 #[.val (.long q1), .second, .val (.int p2), .val (.long (S1 q1)), .second] [(.long (71777214294589695 : Int64)), (.long ((((S1 q1)).toUInt64 >>> ((8 : Int32) &&& 0x3f).toInt64.toUInt64).toInt64)), (.long ((S1 q1) &&& (71777214294589695 : Int64)))])) _
        refine Own.go (fun t k => XS.land X0.here hx rfl (hb hby d4_71) rfl k) ?_
        show Own.Fin p e below (s₁.setTop (mkF m 72 #[.val (.long q1), .second, .val (.int p2), .val (.long (S1 q1)), .second] [(.long (((((S1 q1)).toUInt64 >>> ((8 : Int32) &&& 0x3f).toInt64.toUInt64).toInt64) &&& (71777214294589695 : Int64))), (.long ((S1 q1) &&& (71777214294589695 : Int64)))])) _
        refine Own.go (fun t k => XS.ladd X0.here hx rfl (hb hby d4_72) rfl k) ?_
        show Own.Fin p e below (s₁.setTop (mkF m 73 #[.val (.long q1), .second, .val (.int p2), .val (.long (S1 q1)), .second] [(.long (((S1 q1) &&& (71777214294589695 : Int64)) + (((((S1 q1)).toUInt64 >>> ((8 : Int32) &&& 0x3f).toInt64.toUInt64).toInt64) &&& (71777214294589695 : Int64))))])) _
        show Own.Fin p e below (s₁.setTop (mkF m 73 #[.val (.long q1), .second, .val (.int p2), .val (.long (S1 q1)), .second] [(.long (S8 (S1 q1)))])) _
        refine Own.go (fun t k => XS.lstoreN X0.here hx rfl (hb hby d4_73) rfl (l' := #[.val (.long q1), .second, .val (.int p2), .val (.long (S8 (S1 q1))), .second]) rfl k) ?_
        show Own.Fin p e below (s₁.setTop (mkF m 74 #[.val (.long q1), .second, .val (.int p2), .val (.long (S8 (S1 q1))), .second] [])) _
        refine Own.go (fun t k => XS.lloadN X0.here hx rfl (hb hby d4_74) rfl k) ?_
        show Own.Fin p e below (s₁.setTop (mkF m 75 #[.val (.long q1), .second, .val (.int p2), .val (.long (S8 (S1 q1))), .second] [(.long (S8 (S1 q1)))])) _
        refine Own.go (fun t k => X0.ldc2Long hx hown (mvT hZ (hw _ (List.mem_of_getElem? (i := 30) rfl))) (g := (mkF m 75 #[.val (.long q1), .second, .val (.int p2), .val (.long (S8 (S1 q1))), .second] [(.long (S8 (S1 q1)))])) rfl (hb hby d4_75) _ k) ?_
        show Own.Fin p e below (s₁.setTop (mkF m 78 #[.val (.long q1), .second, .val (.int p2), .val (.long (S8 (S1 q1))), .second] [(.long (281470681808895 : Int64)), (.long (S8 (S1 q1)))])) _
        refine Own.go (fun t k => XS.land X0.here hx rfl (hb hby d4_78) rfl k) ?_
        show Own.Fin p e below (s₁.setTop (mkF m 79 #[.val (.long q1), .second, .val (.int p2), .val (.long (S8 (S1 q1))), .second] [(.long ((S8 (S1 q1)) &&& (281470681808895 : Int64)))])) _
        refine Own.go (fun t k => XS.lloadN X0.here hx rfl (hb hby d4_79) rfl k) ?_
        show Own.Fin p e below (s₁.setTop (mkF m 80 #[.val (.long q1), .second, .val (.int p2), .val (.long (S8 (S1 q1))), .second] [(.long (S8 (S1 q1))), (.long ((S8 (S1 q1)) &&& (281470681808895 : Int64)))])) _
        refine Own.go (fun t k => XS.bipush X0.here hx rfl (hb hby d4_80) k) ?_
        show Own.Fin p e below (s₁.setTop (mkF m 82 #[.val (.long q1), .second, .val (.int p2), .val (.long (S8 (S1 q1))), .second] [(.int (16 : Int32)), (.long (S8 (S1 q1))), (.long ((S8 (S1 q1)) &&& (281470681808895 : Int64)))])) _
        refine Own.go (fun t k => XS.lushr X0.here hx rfl (hb hby d4_82) rfl k) ?_
        show Own.Fin p e below (s₁.setTop (mkF m 83 #[.val (.long q1), .second, .val (.int p2), .val (.long (S8 (S1 q1))), .second] [(.long ((((S8 (S1 q1))).toUInt64 >>> ((16 : Int32) &&& 0x3f).toInt64.toUInt64).toInt64)), (.long ((S8 (S1 q1)) &&& (281470681808895 : Int64)))])) _
        refine Own.go (fun t k => X0.ldc2Long hx hown (mvT hZ (hw _ (List.mem_of_getElem? (i := 30) rfl))) (g := (mkF m 83 #[.val (.long q1), .second, .val (.int p2), .val (.long (S8 (S1 q1))), .second] [(.long ((((S8 (S1 q1))).toUInt64 >>> ((16 : Int32) &&& 0x3f).toInt64.toUInt64).toInt64)), (.long ((S8 (S1 q1)) &&& (281470681808895 : Int64)))])) rfl (hb hby d4_83) _ k) ?_
        show Own.Fin p e below (s₁.setTop (mkF m 86 #[.val (.long q1), .second, .val (.int p2), .val (.long (S8 (S1 q1))), .second] [(.long (281470681808895 : Int64)), (.long ((((S8 (S1 q1))).toUInt64 >>> ((16 : Int32) &&& 0x3f).toInt64.toUInt64).toInt64)), (.long ((S8 (S1 q1)) &&& (281470681808895 : Int64)))])) _
        refine Own.go (fun t k => XS.land X0.here hx rfl (hb hby d4_86) rfl k) ?_
        show Own.Fin p e below (s₁.setTop (mkF m 87 #[.val (.long q1), .second, .val (.int p2), .val (.long (S8 (S1 q1))), .second] [(.long (((((S8 (S1 q1))).toUInt64 >>> ((16 : Int32) &&& 0x3f).toInt64.toUInt64).toInt64) &&& (281470681808895 : Int64))), (.long ((S8 (S1 q1)) &&& (281470681808895 : Int64)))])) _
        refine Own.go (fun t k => XS.ladd X0.here hx rfl (hb hby d4_87) rfl k) ?_
        show Own.Fin p e below (s₁.setTop (mkF m 88 #[.val (.long q1), .second, .val (.int p2), .val (.long (S8 (S1 q1))), .second] [(.long (((S8 (S1 q1)) &&& (281470681808895 : Int64)) + (((((S8 (S1 q1))).toUInt64 >>> ((16 : Int32) &&& 0x3f).toInt64.toUInt64).toInt64) &&& (281470681808895 : Int64))))])) _
        show Own.Fin p e below (s₁.setTop (mkF m 88 #[.val (.long q1), .second, .val (.int p2), .val (.long (S8 (S1 q1))), .second] [(.long (S16 (S8 (S1 q1))))])) _
        refine Own.go (fun t k => XS.lstoreN X0.here hx rfl (hb hby d4_88) rfl (l' := #[.val (.long q1), .second, .val (.int p2), .val (.long (S16 (S8 (S1 q1)))), .second]) rfl k) ?_
        show Own.Fin p e below (s₁.setTop (mkF m 89 #[.val (.long q1), .second, .val (.int p2), .val (.long (S16 (S8 (S1 q1)))), .second] [])) _
        refine Own.go (fun t k => XS.lloadN X0.here hx rfl (hb hby d4_89) rfl k) ?_
        show Own.Fin p e below (s₁.setTop (mkF m 90 #[.val (.long q1), .second, .val (.int p2), .val (.long (S16 (S8 (S1 q1)))), .second] [(.long (S16 (S8 (S1 q1))))])) _
        refine Own.go (fun t k => X0.ldc2Long hx hown (mvT hZ (hw _ (List.mem_of_getElem? (i := 31) rfl))) (g := (mkF m 90 #[.val (.long q1), .second, .val (.int p2), .val (.long (S16 (S8 (S1 q1)))), .second] [(.long (S16 (S8 (S1 q1))))])) rfl (hb hby d4_90) _ k) ?_
        show Own.Fin p e below (s₁.setTop (mkF m 93 #[.val (.long q1), .second, .val (.int p2), .val (.long (S16 (S8 (S1 q1)))), .second] [(.long (4294967295 : Int64)), (.long (S16 (S8 (S1 q1))))])) _
        refine Own.go (fun t k => XS.land X0.here hx rfl (hb hby d4_93) rfl k) ?_
        show Own.Fin p e below (s₁.setTop (mkF m 94 #[.val (.long q1), .second, .val (.int p2), .val (.long (S16 (S8 (S1 q1)))), .second] [(.long ((S16 (S8 (S1 q1))) &&& (4294967295 : Int64)))])) _
        refine Own.go (fun t k => XS.lloadN X0.here hx rfl (hb hby d4_94) rfl k) ?_
        show Own.Fin p e below (s₁.setTop (mkF m 95 #[.val (.long q1), .second, .val (.int p2), .val (.long (S16 (S8 (S1 q1)))), .second] [(.long (S16 (S8 (S1 q1)))), (.long ((S16 (S8 (S1 q1))) &&& (4294967295 : Int64)))])) _
        refine Own.go (fun t k => XS.bipush X0.here hx rfl (hb hby d4_95) k) ?_
        show Own.Fin p e below (s₁.setTop (mkF m 97 #[.val (.long q1), .second, .val (.int p2), .val (.long (S16 (S8 (S1 q1)))), .second] [(.int (32 : Int32)), (.long (S16 (S8 (S1 q1)))), (.long ((S16 (S8 (S1 q1))) &&& (4294967295 : Int64)))])) _
        refine Own.go (fun t k => XS.lushr X0.here hx rfl (hb hby d4_97) rfl k) ?_
        show Own.Fin p e below (s₁.setTop (mkF m 98 #[.val (.long q1), .second, .val (.int p2), .val (.long (S16 (S8 (S1 q1)))), .second] [(.long ((((S16 (S8 (S1 q1)))).toUInt64 >>> ((32 : Int32) &&& 0x3f).toInt64.toUInt64).toInt64)), (.long ((S16 (S8 (S1 q1))) &&& (4294967295 : Int64)))])) _
        refine Own.go (fun t k => XS.ladd X0.here hx rfl (hb hby d4_98) rfl k) ?_
        show Own.Fin p e below (s₁.setTop (mkF m 99 #[.val (.long q1), .second, .val (.int p2), .val (.long (S16 (S8 (S1 q1)))), .second] [(.long (((S16 (S8 (S1 q1))) &&& (4294967295 : Int64)) + ((((S16 (S8 (S1 q1)))).toUInt64 >>> ((32 : Int32) &&& 0x3f).toInt64.toUInt64).toInt64)))])) _
        show Own.Fin p e below (s₁.setTop (mkF m 99 #[.val (.long q1), .second, .val (.int p2), .val (.long (S16 (S8 (S1 q1)))), .second] [(.long (S32 (S16 (S8 (S1 q1)))))])) _
        refine Own.go (fun t k => XS.l2i X0.here hx rfl (hb hby d4_99) rfl k) ?_
        show Own.Fin p e below (s₁.setTop (mkF m 100 #[.val (.long q1), .second, .val (.int p2), .val (.long (S16 (S8 (S1 q1)))), .second] [(.int (((S32 (S16 (S8 (S1 q1))))).toInt32))])) _
        refine Own.retI X0 hx Bd.notSynchronized Bd.returns (hb hby d4_100) (by decide) (by decide) ?_
        exact ⟨by rw [show F_fs q1 p2 = (((S32 (S16 (S8 (S1 q1))))).toInt32) by rw [F_fs, if_pos hc4_0, if_pos hc23_1, if_pos hc42_2]], N0, e0⟩
      · skip
        refine Own.go (fun t k => XS.icmpNo X0.here hx rfl (hb hby d4_42) rfl (flt hc42_2).2.2.1 k) ?_
        show Own.Fin p e below (s₁.setTop (mkF m 45 #[.val (.long q1), .second, .val (.int p2), .val (.long (S1 q1)), .second] [])) _
        refine Own.go (fun t k => XS.lloadN X0.here hx rfl (hb hby d4_45) rfl k) ?_
        show Own.Fin p e below (s₁.setTop (mkF m 46 #[.val (.long q1), .second, .val (.int p2), .val (.long (S1 q1)), .second] [(.long (S1 q1))])) _
        refine Own.go (fun t k => X0.ldc2Long hx hown (mvT hZ (hw _ (List.mem_of_getElem? (i := 39) rfl))) (g := (mkF m 46 #[.val (.long q1), .second, .val (.int p2), .val (.long (S1 q1)), .second] [(.long (S1 q1))])) rfl (hb hby d4_46) _ k) ?_
        show Own.Fin p e below (s₁.setTop (mkF m 49 #[.val (.long q1), .second, .val (.int p2), .val (.long (S1 q1)), .second] [(.long (1085102592571150095 : Int64)), (.long (S1 q1))])) _
        refine Own.go (fun t k => XS.land X0.here hx rfl (hb hby d4_49) rfl k) ?_
        show Own.Fin p e below (s₁.setTop (mkF m 50 #[.val (.long q1), .second, .val (.int p2), .val (.long (S1 q1)), .second] [(.long ((S1 q1) &&& (1085102592571150095 : Int64)))])) _
        refine Own.go (fun t k => XS.lloadN X0.here hx rfl (hb hby d4_50) rfl k) ?_
        show Own.Fin p e below (s₁.setTop (mkF m 51 #[.val (.long q1), .second, .val (.int p2), .val (.long (S1 q1)), .second] [(.long (S1 q1)), (.long ((S1 q1) &&& (1085102592571150095 : Int64)))])) _
        refine Own.go (fun t k => XS.iconst X0.here hx rfl (hb hby d4_51) k) ?_
        show Own.Fin p e below (s₁.setTop (mkF m 52 #[.val (.long q1), .second, .val (.int p2), .val (.long (S1 q1)), .second] [(.int (4 : Int32)), (.long (S1 q1)), (.long ((S1 q1) &&& (1085102592571150095 : Int64)))])) _
        refine Own.go (fun t k => XS.lushr X0.here hx rfl (hb hby d4_52) rfl k) ?_
        show Own.Fin p e below (s₁.setTop (mkF m 53 #[.val (.long q1), .second, .val (.int p2), .val (.long (S1 q1)), .second] [(.long ((((S1 q1)).toUInt64 >>> ((4 : Int32) &&& 0x3f).toInt64.toUInt64).toInt64)), (.long ((S1 q1) &&& (1085102592571150095 : Int64)))])) _
        refine Own.go (fun t k => X0.ldc2Long hx hown (mvT hZ (hw _ (List.mem_of_getElem? (i := 39) rfl))) (g := (mkF m 53 #[.val (.long q1), .second, .val (.int p2), .val (.long (S1 q1)), .second] [(.long ((((S1 q1)).toUInt64 >>> ((4 : Int32) &&& 0x3f).toInt64.toUInt64).toInt64)), (.long ((S1 q1) &&& (1085102592571150095 : Int64)))])) rfl (hb hby d4_53) _ k) ?_
        show Own.Fin p e below (s₁.setTop (mkF m 56 #[.val (.long q1), .second, .val (.int p2), .val (.long (S1 q1)), .second] [(.long (1085102592571150095 : Int64)), (.long ((((S1 q1)).toUInt64 >>> ((4 : Int32) &&& 0x3f).toInt64.toUInt64).toInt64)), (.long ((S1 q1) &&& (1085102592571150095 : Int64)))])) _
        refine Own.go (fun t k => XS.land X0.here hx rfl (hb hby d4_56) rfl k) ?_
        show Own.Fin p e below (s₁.setTop (mkF m 57 #[.val (.long q1), .second, .val (.int p2), .val (.long (S1 q1)), .second] [(.long (((((S1 q1)).toUInt64 >>> ((4 : Int32) &&& 0x3f).toInt64.toUInt64).toInt64) &&& (1085102592571150095 : Int64))), (.long ((S1 q1) &&& (1085102592571150095 : Int64)))])) _
        refine Own.go (fun t k => XS.ladd X0.here hx rfl (hb hby d4_57) rfl k) ?_
        show Own.Fin p e below (s₁.setTop (mkF m 58 #[.val (.long q1), .second, .val (.int p2), .val (.long (S1 q1)), .second] [(.long (((S1 q1) &&& (1085102592571150095 : Int64)) + (((((S1 q1)).toUInt64 >>> ((4 : Int32) &&& 0x3f).toInt64.toUInt64).toInt64) &&& (1085102592571150095 : Int64))))])) _
        show Own.Fin p e below (s₁.setTop (mkF m 58 #[.val (.long q1), .second, .val (.int p2), .val (.long (S1 q1)), .second] [(.long (S4 (S1 q1)))])) _
        refine Own.go (fun t k => XS.lstoreN X0.here hx rfl (hb hby d4_58) rfl (l' := #[.val (.long q1), .second, .val (.int p2), .val (.long (S4 (S1 q1))), .second]) rfl k) ?_
        show Own.Fin p e below (s₁.setTop (mkF m 59 #[.val (.long q1), .second, .val (.int p2), .val (.long (S4 (S1 q1))), .second] [])) _
        refine Own.go (fun t k => XS.lloadN X0.here hx rfl (hb hby d4_59) rfl k) ?_
        show Own.Fin p e below (s₁.setTop (mkF m 60 #[.val (.long q1), .second, .val (.int p2), .val (.long (S4 (S1 q1))), .second] [(.long (S4 (S1 q1)))])) _
        refine Own.go (fun t k => X0.ldc2Long hx hown (mvT hZ (hw _ (List.mem_of_getElem? (i := 29) rfl))) (g := (mkF m 60 #[.val (.long q1), .second, .val (.int p2), .val (.long (S4 (S1 q1))), .second] [(.long (S4 (S1 q1)))])) rfl (hb hby d4_60) _ k) ?_
        show Own.Fin p e below (s₁.setTop (mkF m 63 #[.val (.long q1), .second, .val (.int p2), .val (.long (S4 (S1 q1))), .second] [(.long (71777214294589695 : Int64)), (.long (S4 (S1 q1)))])) _
        refine Own.go (fun t k => XS.land X0.here hx rfl (hb hby d4_63) rfl k) ?_
        show Own.Fin p e below (s₁.setTop (mkF m 64 #[.val (.long q1), .second, .val (.int p2), .val (.long (S4 (S1 q1))), .second] [(.long ((S4 (S1 q1)) &&& (71777214294589695 : Int64)))])) _
        refine Own.go (fun t k => XS.lloadN X0.here hx rfl (hb hby d4_64) rfl k) ?_
        show Own.Fin p e below (s₁.setTop (mkF m 65 #[.val (.long q1), .second, .val (.int p2), .val (.long (S4 (S1 q1))), .second] [(.long (S4 (S1 q1))), (.long ((S4 (S1 q1)) &&& (71777214294589695 : Int64)))])) _
        refine Own.go (fun t k => XS.bipush X0.here hx rfl (hb hby d4_65) k) ?_
        show Own.Fin p e below (s₁.setTop (mkF m 67 #[.val (.long q1), .second, .val (.int p2), .val (.long (S4 (S1 q1))), .second] [(.int (8 : Int32)), (.long (S4 (S1 q1))), (.long ((S4 (S1 q1)) &&& (71777214294589695 : Int64)))])) _
        refine Own.go (fun t k => XS.lushr X0.here hx rfl (hb hby d4_67) rfl k) ?_
        show Own.Fin p e below (s₁.setTop (mkF m 68 #[.val (.long q1), .second, .val (.int p2), .val (.long (S4 (S1 q1))), .second] [(.long ((((S4 (S1 q1))).toUInt64 >>> ((8 : Int32) &&& 0x3f).toInt64.toUInt64).toInt64)), (.long ((S4 (S1 q1)) &&& (71777214294589695 : Int64)))])) _
        refine Own.go (fun t k => X0.ldc2Long hx hown (mvT hZ (hw _ (List.mem_of_getElem? (i := 29) rfl))) (g := (mkF m 68 #[.val (.long q1), .second, .val (.int p2), .val (.long (S4 (S1 q1))), .second] [(.long ((((S4 (S1 q1))).toUInt64 >>> ((8 : Int32) &&& 0x3f).toInt64.toUInt64).toInt64)), (.long ((S4 (S1 q1)) &&& (71777214294589695 : Int64)))])) rfl (hb hby d4_68) _ k) ?_
        show Own.Fin p e below (s₁.setTop (mkF m 71 #[.val (.long q1), .second, .val (.int p2), .val (.long (S4 (S1 q1))), .second] [(.long (71777214294589695 : Int64)), (.long ((((S4 (S1 q1))).toUInt64 >>> ((8 : Int32) &&& 0x3f).toInt64.toUInt64).toInt64)), (.long ((S4 (S1 q1)) &&& (71777214294589695 : Int64)))])) _
        refine Own.go (fun t k => XS.land X0.here hx rfl (hb hby d4_71) rfl k) ?_
        show Own.Fin p e below (s₁.setTop (mkF m 72 #[.val (.long q1), .second, .val (.int p2), .val (.long (S4 (S1 q1))), .second] [(.long (((((S4 (S1 q1))).toUInt64 >>> ((8 : Int32) &&& 0x3f).toInt64.toUInt64).toInt64) &&& (71777214294589695 : Int64))), (.long ((S4 (S1 q1)) &&& (71777214294589695 : Int64)))])) _
        refine Own.go (fun t k => XS.ladd X0.here hx rfl (hb hby d4_72) rfl k) ?_
        show Own.Fin p e below (s₁.setTop (mkF m 73 #[.val (.long q1), .second, .val (.int p2), .val (.long (S4 (S1 q1))), .second] [(.long (((S4 (S1 q1)) &&& (71777214294589695 : Int64)) + (((((S4 (S1 q1))).toUInt64 >>> ((8 : Int32) &&& 0x3f).toInt64.toUInt64).toInt64) &&& (71777214294589695 : Int64))))])) _
        show Own.Fin p e below (s₁.setTop (mkF m 73 #[.val (.long q1), .second, .val (.int p2), .val (.long (S4 (S1 q1))), .second] [(.long (S8 (S4 (S1 q1))))])) _
        refine Own.go (fun t k => XS.lstoreN X0.here hx rfl (hb hby d4_73) rfl (l' := #[.val (.long q1), .second, .val (.int p2), .val (.long (S8 (S4 (S1 q1)))), .second]) rfl k) ?_
        show Own.Fin p e below (s₁.setTop (mkF m 74 #[.val (.long q1), .second, .val (.int p2), .val (.long (S8 (S4 (S1 q1)))), .second] [])) _
        refine Own.go (fun t k => XS.lloadN X0.here hx rfl (hb hby d4_74) rfl k) ?_
        show Own.Fin p e below (s₁.setTop (mkF m 75 #[.val (.long q1), .second, .val (.int p2), .val (.long (S8 (S4 (S1 q1)))), .second] [(.long (S8 (S4 (S1 q1))))])) _
        refine Own.go (fun t k => X0.ldc2Long hx hown (mvT hZ (hw _ (List.mem_of_getElem? (i := 30) rfl))) (g := (mkF m 75 #[.val (.long q1), .second, .val (.int p2), .val (.long (S8 (S4 (S1 q1)))), .second] [(.long (S8 (S4 (S1 q1))))])) rfl (hb hby d4_75) _ k) ?_
        show Own.Fin p e below (s₁.setTop (mkF m 78 #[.val (.long q1), .second, .val (.int p2), .val (.long (S8 (S4 (S1 q1)))), .second] [(.long (281470681808895 : Int64)), (.long (S8 (S4 (S1 q1))))])) _
        refine Own.go (fun t k => XS.land X0.here hx rfl (hb hby d4_78) rfl k) ?_
        show Own.Fin p e below (s₁.setTop (mkF m 79 #[.val (.long q1), .second, .val (.int p2), .val (.long (S8 (S4 (S1 q1)))), .second] [(.long ((S8 (S4 (S1 q1))) &&& (281470681808895 : Int64)))])) _
        refine Own.go (fun t k => XS.lloadN X0.here hx rfl (hb hby d4_79) rfl k) ?_
        show Own.Fin p e below (s₁.setTop (mkF m 80 #[.val (.long q1), .second, .val (.int p2), .val (.long (S8 (S4 (S1 q1)))), .second] [(.long (S8 (S4 (S1 q1)))), (.long ((S8 (S4 (S1 q1))) &&& (281470681808895 : Int64)))])) _
        refine Own.go (fun t k => XS.bipush X0.here hx rfl (hb hby d4_80) k) ?_
        show Own.Fin p e below (s₁.setTop (mkF m 82 #[.val (.long q1), .second, .val (.int p2), .val (.long (S8 (S4 (S1 q1)))), .second] [(.int (16 : Int32)), (.long (S8 (S4 (S1 q1)))), (.long ((S8 (S4 (S1 q1))) &&& (281470681808895 : Int64)))])) _
        refine Own.go (fun t k => XS.lushr X0.here hx rfl (hb hby d4_82) rfl k) ?_
        show Own.Fin p e below (s₁.setTop (mkF m 83 #[.val (.long q1), .second, .val (.int p2), .val (.long (S8 (S4 (S1 q1)))), .second] [(.long ((((S8 (S4 (S1 q1)))).toUInt64 >>> ((16 : Int32) &&& 0x3f).toInt64.toUInt64).toInt64)), (.long ((S8 (S4 (S1 q1))) &&& (281470681808895 : Int64)))])) _
        refine Own.go (fun t k => X0.ldc2Long hx hown (mvT hZ (hw _ (List.mem_of_getElem? (i := 30) rfl))) (g := (mkF m 83 #[.val (.long q1), .second, .val (.int p2), .val (.long (S8 (S4 (S1 q1)))), .second] [(.long ((((S8 (S4 (S1 q1)))).toUInt64 >>> ((16 : Int32) &&& 0x3f).toInt64.toUInt64).toInt64)), (.long ((S8 (S4 (S1 q1))) &&& (281470681808895 : Int64)))])) rfl (hb hby d4_83) _ k) ?_
        show Own.Fin p e below (s₁.setTop (mkF m 86 #[.val (.long q1), .second, .val (.int p2), .val (.long (S8 (S4 (S1 q1)))), .second] [(.long (281470681808895 : Int64)), (.long ((((S8 (S4 (S1 q1)))).toUInt64 >>> ((16 : Int32) &&& 0x3f).toInt64.toUInt64).toInt64)), (.long ((S8 (S4 (S1 q1))) &&& (281470681808895 : Int64)))])) _
        refine Own.go (fun t k => XS.land X0.here hx rfl (hb hby d4_86) rfl k) ?_
        show Own.Fin p e below (s₁.setTop (mkF m 87 #[.val (.long q1), .second, .val (.int p2), .val (.long (S8 (S4 (S1 q1)))), .second] [(.long (((((S8 (S4 (S1 q1)))).toUInt64 >>> ((16 : Int32) &&& 0x3f).toInt64.toUInt64).toInt64) &&& (281470681808895 : Int64))), (.long ((S8 (S4 (S1 q1))) &&& (281470681808895 : Int64)))])) _
        refine Own.go (fun t k => XS.ladd X0.here hx rfl (hb hby d4_87) rfl k) ?_
        show Own.Fin p e below (s₁.setTop (mkF m 88 #[.val (.long q1), .second, .val (.int p2), .val (.long (S8 (S4 (S1 q1)))), .second] [(.long (((S8 (S4 (S1 q1))) &&& (281470681808895 : Int64)) + (((((S8 (S4 (S1 q1)))).toUInt64 >>> ((16 : Int32) &&& 0x3f).toInt64.toUInt64).toInt64) &&& (281470681808895 : Int64))))])) _
        show Own.Fin p e below (s₁.setTop (mkF m 88 #[.val (.long q1), .second, .val (.int p2), .val (.long (S8 (S4 (S1 q1)))), .second] [(.long (S16 (S8 (S4 (S1 q1)))))])) _
        refine Own.go (fun t k => XS.lstoreN X0.here hx rfl (hb hby d4_88) rfl (l' := #[.val (.long q1), .second, .val (.int p2), .val (.long (S16 (S8 (S4 (S1 q1))))), .second]) rfl k) ?_
        show Own.Fin p e below (s₁.setTop (mkF m 89 #[.val (.long q1), .second, .val (.int p2), .val (.long (S16 (S8 (S4 (S1 q1))))), .second] [])) _
        refine Own.go (fun t k => XS.lloadN X0.here hx rfl (hb hby d4_89) rfl k) ?_
        show Own.Fin p e below (s₁.setTop (mkF m 90 #[.val (.long q1), .second, .val (.int p2), .val (.long (S16 (S8 (S4 (S1 q1))))), .second] [(.long (S16 (S8 (S4 (S1 q1)))))])) _
        refine Own.go (fun t k => X0.ldc2Long hx hown (mvT hZ (hw _ (List.mem_of_getElem? (i := 31) rfl))) (g := (mkF m 90 #[.val (.long q1), .second, .val (.int p2), .val (.long (S16 (S8 (S4 (S1 q1))))), .second] [(.long (S16 (S8 (S4 (S1 q1)))))])) rfl (hb hby d4_90) _ k) ?_
        show Own.Fin p e below (s₁.setTop (mkF m 93 #[.val (.long q1), .second, .val (.int p2), .val (.long (S16 (S8 (S4 (S1 q1))))), .second] [(.long (4294967295 : Int64)), (.long (S16 (S8 (S4 (S1 q1)))))])) _
        refine Own.go (fun t k => XS.land X0.here hx rfl (hb hby d4_93) rfl k) ?_
        show Own.Fin p e below (s₁.setTop (mkF m 94 #[.val (.long q1), .second, .val (.int p2), .val (.long (S16 (S8 (S4 (S1 q1))))), .second] [(.long ((S16 (S8 (S4 (S1 q1)))) &&& (4294967295 : Int64)))])) _
        refine Own.go (fun t k => XS.lloadN X0.here hx rfl (hb hby d4_94) rfl k) ?_
        show Own.Fin p e below (s₁.setTop (mkF m 95 #[.val (.long q1), .second, .val (.int p2), .val (.long (S16 (S8 (S4 (S1 q1))))), .second] [(.long (S16 (S8 (S4 (S1 q1))))), (.long ((S16 (S8 (S4 (S1 q1)))) &&& (4294967295 : Int64)))])) _
        refine Own.go (fun t k => XS.bipush X0.here hx rfl (hb hby d4_95) k) ?_
        show Own.Fin p e below (s₁.setTop (mkF m 97 #[.val (.long q1), .second, .val (.int p2), .val (.long (S16 (S8 (S4 (S1 q1))))), .second] [(.int (32 : Int32)), (.long (S16 (S8 (S4 (S1 q1))))), (.long ((S16 (S8 (S4 (S1 q1)))) &&& (4294967295 : Int64)))])) _
        refine Own.go (fun t k => XS.lushr X0.here hx rfl (hb hby d4_97) rfl k) ?_
        show Own.Fin p e below (s₁.setTop (mkF m 98 #[.val (.long q1), .second, .val (.int p2), .val (.long (S16 (S8 (S4 (S1 q1))))), .second] [(.long ((((S16 (S8 (S4 (S1 q1))))).toUInt64 >>> ((32 : Int32) &&& 0x3f).toInt64.toUInt64).toInt64)), (.long ((S16 (S8 (S4 (S1 q1)))) &&& (4294967295 : Int64)))])) _
        refine Own.go (fun t k => XS.ladd X0.here hx rfl (hb hby d4_98) rfl k) ?_
        show Own.Fin p e below (s₁.setTop (mkF m 99 #[.val (.long q1), .second, .val (.int p2), .val (.long (S16 (S8 (S4 (S1 q1))))), .second] [(.long (((S16 (S8 (S4 (S1 q1)))) &&& (4294967295 : Int64)) + ((((S16 (S8 (S4 (S1 q1))))).toUInt64 >>> ((32 : Int32) &&& 0x3f).toInt64.toUInt64).toInt64)))])) _
        show Own.Fin p e below (s₁.setTop (mkF m 99 #[.val (.long q1), .second, .val (.int p2), .val (.long (S16 (S8 (S4 (S1 q1))))), .second] [(.long (S32 (S16 (S8 (S4 (S1 q1))))))])) _
        refine Own.go (fun t k => XS.l2i X0.here hx rfl (hb hby d4_99) rfl k) ?_
        show Own.Fin p e below (s₁.setTop (mkF m 100 #[.val (.long q1), .second, .val (.int p2), .val (.long (S16 (S8 (S4 (S1 q1))))), .second] [(.int (((S32 (S16 (S8 (S4 (S1 q1)))))).toInt32))])) _
        refine Own.retI X0 hx Bd.notSynchronized Bd.returns (hb hby d4_100) (by decide) (by decide) ?_
        exact ⟨by rw [show F_fs q1 p2 = (((S32 (S16 (S8 (S4 (S1 q1)))))).toInt32) by rw [F_fs, if_pos hc4_0, if_pos hc23_1, if_neg hc42_2]], N0, e0⟩
    · skip
      refine Own.go (fun t k => XS.icmpNo X0.here hx rfl (hb hby d4_23) rfl (flt hc23_1).2.2.1 k) ?_
      show Own.Fin p e below (s₁.setTop (mkF m 26 #[.val (.long q1), .second, .val (.int p2), .val (.long (S1 q1)), .second] [])) _
      refine Own.go (fun t k => XS.lloadN X0.here hx rfl (hb hby d4_26) rfl k) ?_
      show Own.Fin p e below (s₁.setTop (mkF m 27 #[.val (.long q1), .second, .val (.int p2), .val (.long (S1 q1)), .second] [(.long (S1 q1))])) _
      refine Own.go (fun t k => X0.ldc2Long hx hown (mvT hZ (hw _ (List.mem_of_getElem? (i := 38) rfl))) (g := (mkF m 27 #[.val (.long q1), .second, .val (.int p2), .val (.long (S1 q1)), .second] [(.long (S1 q1))])) rfl (hb hby d4_27) _ k) ?_
      show Own.Fin p e below (s₁.setTop (mkF m 30 #[.val (.long q1), .second, .val (.int p2), .val (.long (S1 q1)), .second] [(.long (3689348814741910323 : Int64)), (.long (S1 q1))])) _
      refine Own.go (fun t k => XS.land X0.here hx rfl (hb hby d4_30) rfl k) ?_
      show Own.Fin p e below (s₁.setTop (mkF m 31 #[.val (.long q1), .second, .val (.int p2), .val (.long (S1 q1)), .second] [(.long ((S1 q1) &&& (3689348814741910323 : Int64)))])) _
      refine Own.go (fun t k => XS.lloadN X0.here hx rfl (hb hby d4_31) rfl k) ?_
      show Own.Fin p e below (s₁.setTop (mkF m 32 #[.val (.long q1), .second, .val (.int p2), .val (.long (S1 q1)), .second] [(.long (S1 q1)), (.long ((S1 q1) &&& (3689348814741910323 : Int64)))])) _
      refine Own.go (fun t k => XS.iconst X0.here hx rfl (hb hby d4_32) k) ?_
      show Own.Fin p e below (s₁.setTop (mkF m 33 #[.val (.long q1), .second, .val (.int p2), .val (.long (S1 q1)), .second] [(.int (2 : Int32)), (.long (S1 q1)), (.long ((S1 q1) &&& (3689348814741910323 : Int64)))])) _
      refine Own.go (fun t k => XS.lushr X0.here hx rfl (hb hby d4_33) rfl k) ?_
      show Own.Fin p e below (s₁.setTop (mkF m 34 #[.val (.long q1), .second, .val (.int p2), .val (.long (S1 q1)), .second] [(.long ((((S1 q1)).toUInt64 >>> ((2 : Int32) &&& 0x3f).toInt64.toUInt64).toInt64)), (.long ((S1 q1) &&& (3689348814741910323 : Int64)))])) _
      refine Own.go (fun t k => X0.ldc2Long hx hown (mvT hZ (hw _ (List.mem_of_getElem? (i := 38) rfl))) (g := (mkF m 34 #[.val (.long q1), .second, .val (.int p2), .val (.long (S1 q1)), .second] [(.long ((((S1 q1)).toUInt64 >>> ((2 : Int32) &&& 0x3f).toInt64.toUInt64).toInt64)), (.long ((S1 q1) &&& (3689348814741910323 : Int64)))])) rfl (hb hby d4_34) _ k) ?_
      show Own.Fin p e below (s₁.setTop (mkF m 37 #[.val (.long q1), .second, .val (.int p2), .val (.long (S1 q1)), .second] [(.long (3689348814741910323 : Int64)), (.long ((((S1 q1)).toUInt64 >>> ((2 : Int32) &&& 0x3f).toInt64.toUInt64).toInt64)), (.long ((S1 q1) &&& (3689348814741910323 : Int64)))])) _
      refine Own.go (fun t k => XS.land X0.here hx rfl (hb hby d4_37) rfl k) ?_
      show Own.Fin p e below (s₁.setTop (mkF m 38 #[.val (.long q1), .second, .val (.int p2), .val (.long (S1 q1)), .second] [(.long (((((S1 q1)).toUInt64 >>> ((2 : Int32) &&& 0x3f).toInt64.toUInt64).toInt64) &&& (3689348814741910323 : Int64))), (.long ((S1 q1) &&& (3689348814741910323 : Int64)))])) _
      refine Own.go (fun t k => XS.ladd X0.here hx rfl (hb hby d4_38) rfl k) ?_
      show Own.Fin p e below (s₁.setTop (mkF m 39 #[.val (.long q1), .second, .val (.int p2), .val (.long (S1 q1)), .second] [(.long (((S1 q1) &&& (3689348814741910323 : Int64)) + (((((S1 q1)).toUInt64 >>> ((2 : Int32) &&& 0x3f).toInt64.toUInt64).toInt64) &&& (3689348814741910323 : Int64))))])) _
      show Own.Fin p e below (s₁.setTop (mkF m 39 #[.val (.long q1), .second, .val (.int p2), .val (.long (S1 q1)), .second] [(.long (S2 (S1 q1)))])) _
      refine Own.go (fun t k => XS.lstoreN X0.here hx rfl (hb hby d4_39) rfl (l' := #[.val (.long q1), .second, .val (.int p2), .val (.long (S2 (S1 q1))), .second]) rfl k) ?_
      show Own.Fin p e below (s₁.setTop (mkF m 40 #[.val (.long q1), .second, .val (.int p2), .val (.long (S2 (S1 q1))), .second] [])) _
      refine Own.go (fun t k => XS.iloadN X0.here hx rfl (hb hby d4_40) rfl k) ?_
      show Own.Fin p e below (s₁.setTop (mkF m 41 #[.val (.long q1), .second, .val (.int p2), .val (.long (S2 (S1 q1))), .second] [(.int p2)])) _
      refine Own.go (fun t k => XS.iconst X0.here hx rfl (hb hby d4_41) k) ?_
      show Own.Fin p e below (s₁.setTop (mkF m 42 #[.val (.long q1), .second, .val (.int p2), .val (.long (S2 (S1 q1))), .second] [(.int (4 : Int32)), (.int p2)])) _
      by_cases hc42_3 : (4 : Int32) < p2
      · skip
        refine Own.go (fun t k => XS.icmpYes X0.here hx rfl (pc0 := 42) (pc' := 59) rfl (hb hby d4_42) rfl (tlt hc42_3).2.2.1 (by decide) (by decide) k) ?_
        show Own.Fin p e below (s₁.setTop (mkF m 59 #[.val (.long q1), .second, .val (.int p2), .val (.long (S2 (S1 q1))), .second] [])) _
        refine Own.go (fun t k => XS.lloadN X0.here hx rfl (hb hby d4_59) rfl k) ?_
        show Own.Fin p e below (s₁.setTop (mkF m 60 #[.val (.long q1), .second, .val (.int p2), .val (.long (S2 (S1 q1))), .second] [(.long (S2 (S1 q1)))])) _
        refine Own.go (fun t k => X0.ldc2Long hx hown (mvT hZ (hw _ (List.mem_of_getElem? (i := 29) rfl))) (g := (mkF m 60 #[.val (.long q1), .second, .val (.int p2), .val (.long (S2 (S1 q1))), .second] [(.long (S2 (S1 q1)))])) rfl (hb hby d4_60) _ k) ?_
        show Own.Fin p e below (s₁.setTop (mkF m 63 #[.val (.long q1), .second, .val (.int p2), .val (.long (S2 (S1 q1))), .second] [(.long (71777214294589695 : Int64)), (.long (S2 (S1 q1)))])) _
        refine Own.go (fun t k => XS.land X0.here hx rfl (hb hby d4_63) rfl k) ?_
        show Own.Fin p e below (s₁.setTop (mkF m 64 #[.val (.long q1), .second, .val (.int p2), .val (.long (S2 (S1 q1))), .second] [(.long ((S2 (S1 q1)) &&& (71777214294589695 : Int64)))])) _
        refine Own.go (fun t k => XS.lloadN X0.here hx rfl (hb hby d4_64) rfl k) ?_
        show Own.Fin p e below (s₁.setTop (mkF m 65 #[.val (.long q1), .second, .val (.int p2), .val (.long (S2 (S1 q1))), .second] [(.long (S2 (S1 q1))), (.long ((S2 (S1 q1)) &&& (71777214294589695 : Int64)))])) _
        refine Own.go (fun t k => XS.bipush X0.here hx rfl (hb hby d4_65) k) ?_
        show Own.Fin p e below (s₁.setTop (mkF m 67 #[.val (.long q1), .second, .val (.int p2), .val (.long (S2 (S1 q1))), .second] [(.int (8 : Int32)), (.long (S2 (S1 q1))), (.long ((S2 (S1 q1)) &&& (71777214294589695 : Int64)))])) _
        refine Own.go (fun t k => XS.lushr X0.here hx rfl (hb hby d4_67) rfl k) ?_
        show Own.Fin p e below (s₁.setTop (mkF m 68 #[.val (.long q1), .second, .val (.int p2), .val (.long (S2 (S1 q1))), .second] [(.long ((((S2 (S1 q1))).toUInt64 >>> ((8 : Int32) &&& 0x3f).toInt64.toUInt64).toInt64)), (.long ((S2 (S1 q1)) &&& (71777214294589695 : Int64)))])) _
        refine Own.go (fun t k => X0.ldc2Long hx hown (mvT hZ (hw _ (List.mem_of_getElem? (i := 29) rfl))) (g := (mkF m 68 #[.val (.long q1), .second, .val (.int p2), .val (.long (S2 (S1 q1))), .second] [(.long ((((S2 (S1 q1))).toUInt64 >>> ((8 : Int32) &&& 0x3f).toInt64.toUInt64).toInt64)), (.long ((S2 (S1 q1)) &&& (71777214294589695 : Int64)))])) rfl (hb hby d4_68) _ k) ?_
        show Own.Fin p e below (s₁.setTop (mkF m 71 #[.val (.long q1), .second, .val (.int p2), .val (.long (S2 (S1 q1))), .second] [(.long (71777214294589695 : Int64)), (.long ((((S2 (S1 q1))).toUInt64 >>> ((8 : Int32) &&& 0x3f).toInt64.toUInt64).toInt64)), (.long ((S2 (S1 q1)) &&& (71777214294589695 : Int64)))])) _
        refine Own.go (fun t k => XS.land X0.here hx rfl (hb hby d4_71) rfl k) ?_
        show Own.Fin p e below (s₁.setTop (mkF m 72 #[.val (.long q1), .second, .val (.int p2), .val (.long (S2 (S1 q1))), .second] [(.long (((((S2 (S1 q1))).toUInt64 >>> ((8 : Int32) &&& 0x3f).toInt64.toUInt64).toInt64) &&& (71777214294589695 : Int64))), (.long ((S2 (S1 q1)) &&& (71777214294589695 : Int64)))])) _
        refine Own.go (fun t k => XS.ladd X0.here hx rfl (hb hby d4_72) rfl k) ?_
        show Own.Fin p e below (s₁.setTop (mkF m 73 #[.val (.long q1), .second, .val (.int p2), .val (.long (S2 (S1 q1))), .second] [(.long (((S2 (S1 q1)) &&& (71777214294589695 : Int64)) + (((((S2 (S1 q1))).toUInt64 >>> ((8 : Int32) &&& 0x3f).toInt64.toUInt64).toInt64) &&& (71777214294589695 : Int64))))])) _
        show Own.Fin p e below (s₁.setTop (mkF m 73 #[.val (.long q1), .second, .val (.int p2), .val (.long (S2 (S1 q1))), .second] [(.long (S8 (S2 (S1 q1))))])) _
        refine Own.go (fun t k => XS.lstoreN X0.here hx rfl (hb hby d4_73) rfl (l' := #[.val (.long q1), .second, .val (.int p2), .val (.long (S8 (S2 (S1 q1)))), .second]) rfl k) ?_
        show Own.Fin p e below (s₁.setTop (mkF m 74 #[.val (.long q1), .second, .val (.int p2), .val (.long (S8 (S2 (S1 q1)))), .second] [])) _
        refine Own.go (fun t k => XS.lloadN X0.here hx rfl (hb hby d4_74) rfl k) ?_
        show Own.Fin p e below (s₁.setTop (mkF m 75 #[.val (.long q1), .second, .val (.int p2), .val (.long (S8 (S2 (S1 q1)))), .second] [(.long (S8 (S2 (S1 q1))))])) _
        refine Own.go (fun t k => X0.ldc2Long hx hown (mvT hZ (hw _ (List.mem_of_getElem? (i := 30) rfl))) (g := (mkF m 75 #[.val (.long q1), .second, .val (.int p2), .val (.long (S8 (S2 (S1 q1)))), .second] [(.long (S8 (S2 (S1 q1))))])) rfl (hb hby d4_75) _ k) ?_
        show Own.Fin p e below (s₁.setTop (mkF m 78 #[.val (.long q1), .second, .val (.int p2), .val (.long (S8 (S2 (S1 q1)))), .second] [(.long (281470681808895 : Int64)), (.long (S8 (S2 (S1 q1))))])) _
        refine Own.go (fun t k => XS.land X0.here hx rfl (hb hby d4_78) rfl k) ?_
        show Own.Fin p e below (s₁.setTop (mkF m 79 #[.val (.long q1), .second, .val (.int p2), .val (.long (S8 (S2 (S1 q1)))), .second] [(.long ((S8 (S2 (S1 q1))) &&& (281470681808895 : Int64)))])) _
        refine Own.go (fun t k => XS.lloadN X0.here hx rfl (hb hby d4_79) rfl k) ?_
        show Own.Fin p e below (s₁.setTop (mkF m 80 #[.val (.long q1), .second, .val (.int p2), .val (.long (S8 (S2 (S1 q1)))), .second] [(.long (S8 (S2 (S1 q1)))), (.long ((S8 (S2 (S1 q1))) &&& (281470681808895 : Int64)))])) _
        refine Own.go (fun t k => XS.bipush X0.here hx rfl (hb hby d4_80) k) ?_
        show Own.Fin p e below (s₁.setTop (mkF m 82 #[.val (.long q1), .second, .val (.int p2), .val (.long (S8 (S2 (S1 q1)))), .second] [(.int (16 : Int32)), (.long (S8 (S2 (S1 q1)))), (.long ((S8 (S2 (S1 q1))) &&& (281470681808895 : Int64)))])) _
        refine Own.go (fun t k => XS.lushr X0.here hx rfl (hb hby d4_82) rfl k) ?_
        show Own.Fin p e below (s₁.setTop (mkF m 83 #[.val (.long q1), .second, .val (.int p2), .val (.long (S8 (S2 (S1 q1)))), .second] [(.long ((((S8 (S2 (S1 q1)))).toUInt64 >>> ((16 : Int32) &&& 0x3f).toInt64.toUInt64).toInt64)), (.long ((S8 (S2 (S1 q1))) &&& (281470681808895 : Int64)))])) _
        refine Own.go (fun t k => X0.ldc2Long hx hown (mvT hZ (hw _ (List.mem_of_getElem? (i := 30) rfl))) (g := (mkF m 83 #[.val (.long q1), .second, .val (.int p2), .val (.long (S8 (S2 (S1 q1)))), .second] [(.long ((((S8 (S2 (S1 q1)))).toUInt64 >>> ((16 : Int32) &&& 0x3f).toInt64.toUInt64).toInt64)), (.long ((S8 (S2 (S1 q1))) &&& (281470681808895 : Int64)))])) rfl (hb hby d4_83) _ k) ?_
        show Own.Fin p e below (s₁.setTop (mkF m 86 #[.val (.long q1), .second, .val (.int p2), .val (.long (S8 (S2 (S1 q1)))), .second] [(.long (281470681808895 : Int64)), (.long ((((S8 (S2 (S1 q1)))).toUInt64 >>> ((16 : Int32) &&& 0x3f).toInt64.toUInt64).toInt64)), (.long ((S8 (S2 (S1 q1))) &&& (281470681808895 : Int64)))])) _
        refine Own.go (fun t k => XS.land X0.here hx rfl (hb hby d4_86) rfl k) ?_
        show Own.Fin p e below (s₁.setTop (mkF m 87 #[.val (.long q1), .second, .val (.int p2), .val (.long (S8 (S2 (S1 q1)))), .second] [(.long (((((S8 (S2 (S1 q1)))).toUInt64 >>> ((16 : Int32) &&& 0x3f).toInt64.toUInt64).toInt64) &&& (281470681808895 : Int64))), (.long ((S8 (S2 (S1 q1))) &&& (281470681808895 : Int64)))])) _
        refine Own.go (fun t k => XS.ladd X0.here hx rfl (hb hby d4_87) rfl k) ?_
        show Own.Fin p e below (s₁.setTop (mkF m 88 #[.val (.long q1), .second, .val (.int p2), .val (.long (S8 (S2 (S1 q1)))), .second] [(.long (((S8 (S2 (S1 q1))) &&& (281470681808895 : Int64)) + (((((S8 (S2 (S1 q1)))).toUInt64 >>> ((16 : Int32) &&& 0x3f).toInt64.toUInt64).toInt64) &&& (281470681808895 : Int64))))])) _
        show Own.Fin p e below (s₁.setTop (mkF m 88 #[.val (.long q1), .second, .val (.int p2), .val (.long (S8 (S2 (S1 q1)))), .second] [(.long (S16 (S8 (S2 (S1 q1)))))])) _
        refine Own.go (fun t k => XS.lstoreN X0.here hx rfl (hb hby d4_88) rfl (l' := #[.val (.long q1), .second, .val (.int p2), .val (.long (S16 (S8 (S2 (S1 q1))))), .second]) rfl k) ?_
        show Own.Fin p e below (s₁.setTop (mkF m 89 #[.val (.long q1), .second, .val (.int p2), .val (.long (S16 (S8 (S2 (S1 q1))))), .second] [])) _
        refine Own.go (fun t k => XS.lloadN X0.here hx rfl (hb hby d4_89) rfl k) ?_
        show Own.Fin p e below (s₁.setTop (mkF m 90 #[.val (.long q1), .second, .val (.int p2), .val (.long (S16 (S8 (S2 (S1 q1))))), .second] [(.long (S16 (S8 (S2 (S1 q1)))))])) _
        refine Own.go (fun t k => X0.ldc2Long hx hown (mvT hZ (hw _ (List.mem_of_getElem? (i := 31) rfl))) (g := (mkF m 90 #[.val (.long q1), .second, .val (.int p2), .val (.long (S16 (S8 (S2 (S1 q1))))), .second] [(.long (S16 (S8 (S2 (S1 q1)))))])) rfl (hb hby d4_90) _ k) ?_
        show Own.Fin p e below (s₁.setTop (mkF m 93 #[.val (.long q1), .second, .val (.int p2), .val (.long (S16 (S8 (S2 (S1 q1))))), .second] [(.long (4294967295 : Int64)), (.long (S16 (S8 (S2 (S1 q1)))))])) _
        refine Own.go (fun t k => XS.land X0.here hx rfl (hb hby d4_93) rfl k) ?_
        show Own.Fin p e below (s₁.setTop (mkF m 94 #[.val (.long q1), .second, .val (.int p2), .val (.long (S16 (S8 (S2 (S1 q1))))), .second] [(.long ((S16 (S8 (S2 (S1 q1)))) &&& (4294967295 : Int64)))])) _
        refine Own.go (fun t k => XS.lloadN X0.here hx rfl (hb hby d4_94) rfl k) ?_
        show Own.Fin p e below (s₁.setTop (mkF m 95 #[.val (.long q1), .second, .val (.int p2), .val (.long (S16 (S8 (S2 (S1 q1))))), .second] [(.long (S16 (S8 (S2 (S1 q1))))), (.long ((S16 (S8 (S2 (S1 q1)))) &&& (4294967295 : Int64)))])) _
        refine Own.go (fun t k => XS.bipush X0.here hx rfl (hb hby d4_95) k) ?_
        show Own.Fin p e below (s₁.setTop (mkF m 97 #[.val (.long q1), .second, .val (.int p2), .val (.long (S16 (S8 (S2 (S1 q1))))), .second] [(.int (32 : Int32)), (.long (S16 (S8 (S2 (S1 q1))))), (.long ((S16 (S8 (S2 (S1 q1)))) &&& (4294967295 : Int64)))])) _
        refine Own.go (fun t k => XS.lushr X0.here hx rfl (hb hby d4_97) rfl k) ?_
        show Own.Fin p e below (s₁.setTop (mkF m 98 #[.val (.long q1), .second, .val (.int p2), .val (.long (S16 (S8 (S2 (S1 q1))))), .second] [(.long ((((S16 (S8 (S2 (S1 q1))))).toUInt64 >>> ((32 : Int32) &&& 0x3f).toInt64.toUInt64).toInt64)), (.long ((S16 (S8 (S2 (S1 q1)))) &&& (4294967295 : Int64)))])) _
        refine Own.go (fun t k => XS.ladd X0.here hx rfl (hb hby d4_98) rfl k) ?_
        show Own.Fin p e below (s₁.setTop (mkF m 99 #[.val (.long q1), .second, .val (.int p2), .val (.long (S16 (S8 (S2 (S1 q1))))), .second] [(.long (((S16 (S8 (S2 (S1 q1)))) &&& (4294967295 : Int64)) + ((((S16 (S8 (S2 (S1 q1))))).toUInt64 >>> ((32 : Int32) &&& 0x3f).toInt64.toUInt64).toInt64)))])) _
        show Own.Fin p e below (s₁.setTop (mkF m 99 #[.val (.long q1), .second, .val (.int p2), .val (.long (S16 (S8 (S2 (S1 q1))))), .second] [(.long (S32 (S16 (S8 (S2 (S1 q1))))))])) _
        refine Own.go (fun t k => XS.l2i X0.here hx rfl (hb hby d4_99) rfl k) ?_
        show Own.Fin p e below (s₁.setTop (mkF m 100 #[.val (.long q1), .second, .val (.int p2), .val (.long (S16 (S8 (S2 (S1 q1))))), .second] [(.int (((S32 (S16 (S8 (S2 (S1 q1)))))).toInt32))])) _
        refine Own.retI X0 hx Bd.notSynchronized Bd.returns (hb hby d4_100) (by decide) (by decide) ?_
        exact ⟨by rw [show F_fs q1 p2 = (((S32 (S16 (S8 (S2 (S1 q1)))))).toInt32) by rw [F_fs, if_pos hc4_0, if_neg hc23_1, if_pos hc42_3]], N0, e0⟩
      · skip
        refine Own.go (fun t k => XS.icmpNo X0.here hx rfl (hb hby d4_42) rfl (flt hc42_3).2.2.1 k) ?_
        show Own.Fin p e below (s₁.setTop (mkF m 45 #[.val (.long q1), .second, .val (.int p2), .val (.long (S2 (S1 q1))), .second] [])) _
        refine Own.go (fun t k => XS.lloadN X0.here hx rfl (hb hby d4_45) rfl k) ?_
        show Own.Fin p e below (s₁.setTop (mkF m 46 #[.val (.long q1), .second, .val (.int p2), .val (.long (S2 (S1 q1))), .second] [(.long (S2 (S1 q1)))])) _
        refine Own.go (fun t k => X0.ldc2Long hx hown (mvT hZ (hw _ (List.mem_of_getElem? (i := 39) rfl))) (g := (mkF m 46 #[.val (.long q1), .second, .val (.int p2), .val (.long (S2 (S1 q1))), .second] [(.long (S2 (S1 q1)))])) rfl (hb hby d4_46) _ k) ?_
        show Own.Fin p e below (s₁.setTop (mkF m 49 #[.val (.long q1), .second, .val (.int p2), .val (.long (S2 (S1 q1))), .second] [(.long (1085102592571150095 : Int64)), (.long (S2 (S1 q1)))])) _
        refine Own.go (fun t k => XS.land X0.here hx rfl (hb hby d4_49) rfl k) ?_
        show Own.Fin p e below (s₁.setTop (mkF m 50 #[.val (.long q1), .second, .val (.int p2), .val (.long (S2 (S1 q1))), .second] [(.long ((S2 (S1 q1)) &&& (1085102592571150095 : Int64)))])) _
        refine Own.go (fun t k => XS.lloadN X0.here hx rfl (hb hby d4_50) rfl k) ?_
        show Own.Fin p e below (s₁.setTop (mkF m 51 #[.val (.long q1), .second, .val (.int p2), .val (.long (S2 (S1 q1))), .second] [(.long (S2 (S1 q1))), (.long ((S2 (S1 q1)) &&& (1085102592571150095 : Int64)))])) _
        refine Own.go (fun t k => XS.iconst X0.here hx rfl (hb hby d4_51) k) ?_
        show Own.Fin p e below (s₁.setTop (mkF m 52 #[.val (.long q1), .second, .val (.int p2), .val (.long (S2 (S1 q1))), .second] [(.int (4 : Int32)), (.long (S2 (S1 q1))), (.long ((S2 (S1 q1)) &&& (1085102592571150095 : Int64)))])) _
        refine Own.go (fun t k => XS.lushr X0.here hx rfl (hb hby d4_52) rfl k) ?_
        show Own.Fin p e below (s₁.setTop (mkF m 53 #[.val (.long q1), .second, .val (.int p2), .val (.long (S2 (S1 q1))), .second] [(.long ((((S2 (S1 q1))).toUInt64 >>> ((4 : Int32) &&& 0x3f).toInt64.toUInt64).toInt64)), (.long ((S2 (S1 q1)) &&& (1085102592571150095 : Int64)))])) _
        refine Own.go (fun t k => X0.ldc2Long hx hown (mvT hZ (hw _ (List.mem_of_getElem? (i := 39) rfl))) (g := (mkF m 53 #[.val (.long q1), .second, .val (.int p2), .val (.long (S2 (S1 q1))), .second] [(.long ((((S2 (S1 q1))).toUInt64 >>> ((4 : Int32) &&& 0x3f).toInt64.toUInt64).toInt64)), (.long ((S2 (S1 q1)) &&& (1085102592571150095 : Int64)))])) rfl (hb hby d4_53) _ k) ?_
        show Own.Fin p e below (s₁.setTop (mkF m 56 #[.val (.long q1), .second, .val (.int p2), .val (.long (S2 (S1 q1))), .second] [(.long (1085102592571150095 : Int64)), (.long ((((S2 (S1 q1))).toUInt64 >>> ((4 : Int32) &&& 0x3f).toInt64.toUInt64).toInt64)), (.long ((S2 (S1 q1)) &&& (1085102592571150095 : Int64)))])) _
        refine Own.go (fun t k => XS.land X0.here hx rfl (hb hby d4_56) rfl k) ?_
        show Own.Fin p e below (s₁.setTop (mkF m 57 #[.val (.long q1), .second, .val (.int p2), .val (.long (S2 (S1 q1))), .second] [(.long (((((S2 (S1 q1))).toUInt64 >>> ((4 : Int32) &&& 0x3f).toInt64.toUInt64).toInt64) &&& (1085102592571150095 : Int64))), (.long ((S2 (S1 q1)) &&& (1085102592571150095 : Int64)))])) _
        refine Own.go (fun t k => XS.ladd X0.here hx rfl (hb hby d4_57) rfl k) ?_
        show Own.Fin p e below (s₁.setTop (mkF m 58 #[.val (.long q1), .second, .val (.int p2), .val (.long (S2 (S1 q1))), .second] [(.long (((S2 (S1 q1)) &&& (1085102592571150095 : Int64)) + (((((S2 (S1 q1))).toUInt64 >>> ((4 : Int32) &&& 0x3f).toInt64.toUInt64).toInt64) &&& (1085102592571150095 : Int64))))])) _
        show Own.Fin p e below (s₁.setTop (mkF m 58 #[.val (.long q1), .second, .val (.int p2), .val (.long (S2 (S1 q1))), .second] [(.long (S4 (S2 (S1 q1))))])) _
        refine Own.go (fun t k => XS.lstoreN X0.here hx rfl (hb hby d4_58) rfl (l' := #[.val (.long q1), .second, .val (.int p2), .val (.long (S4 (S2 (S1 q1)))), .second]) rfl k) ?_
        show Own.Fin p e below (s₁.setTop (mkF m 59 #[.val (.long q1), .second, .val (.int p2), .val (.long (S4 (S2 (S1 q1)))), .second] [])) _
        refine Own.go (fun t k => XS.lloadN X0.here hx rfl (hb hby d4_59) rfl k) ?_
        show Own.Fin p e below (s₁.setTop (mkF m 60 #[.val (.long q1), .second, .val (.int p2), .val (.long (S4 (S2 (S1 q1)))), .second] [(.long (S4 (S2 (S1 q1))))])) _
        refine Own.go (fun t k => X0.ldc2Long hx hown (mvT hZ (hw _ (List.mem_of_getElem? (i := 29) rfl))) (g := (mkF m 60 #[.val (.long q1), .second, .val (.int p2), .val (.long (S4 (S2 (S1 q1)))), .second] [(.long (S4 (S2 (S1 q1))))])) rfl (hb hby d4_60) _ k) ?_
        show Own.Fin p e below (s₁.setTop (mkF m 63 #[.val (.long q1), .second, .val (.int p2), .val (.long (S4 (S2 (S1 q1)))), .second] [(.long (71777214294589695 : Int64)), (.long (S4 (S2 (S1 q1))))])) _
        refine Own.go (fun t k => XS.land X0.here hx rfl (hb hby d4_63) rfl k) ?_
        show Own.Fin p e below (s₁.setTop (mkF m 64 #[.val (.long q1), .second, .val (.int p2), .val (.long (S4 (S2 (S1 q1)))), .second] [(.long ((S4 (S2 (S1 q1))) &&& (71777214294589695 : Int64)))])) _
        refine Own.go (fun t k => XS.lloadN X0.here hx rfl (hb hby d4_64) rfl k) ?_
        show Own.Fin p e below (s₁.setTop (mkF m 65 #[.val (.long q1), .second, .val (.int p2), .val (.long (S4 (S2 (S1 q1)))), .second] [(.long (S4 (S2 (S1 q1)))), (.long ((S4 (S2 (S1 q1))) &&& (71777214294589695 : Int64)))])) _
        refine Own.go (fun t k => XS.bipush X0.here hx rfl (hb hby d4_65) k) ?_
        show Own.Fin p e below (s₁.setTop (mkF m 67 #[.val (.long q1), .second, .val (.int p2), .val (.long (S4 (S2 (S1 q1)))), .second] [(.int (8 : Int32)), (.long (S4 (S2 (S1 q1)))), (.long ((S4 (S2 (S1 q1))) &&& (71777214294589695 : Int64)))])) _
        refine Own.go (fun t k => XS.lushr X0.here hx rfl (hb hby d4_67) rfl k) ?_
        show Own.Fin p e below (s₁.setTop (mkF m 68 #[.val (.long q1), .second, .val (.int p2), .val (.long (S4 (S2 (S1 q1)))), .second] [(.long ((((S4 (S2 (S1 q1)))).toUInt64 >>> ((8 : Int32) &&& 0x3f).toInt64.toUInt64).toInt64)), (.long ((S4 (S2 (S1 q1))) &&& (71777214294589695 : Int64)))])) _
        refine Own.go (fun t k => X0.ldc2Long hx hown (mvT hZ (hw _ (List.mem_of_getElem? (i := 29) rfl))) (g := (mkF m 68 #[.val (.long q1), .second, .val (.int p2), .val (.long (S4 (S2 (S1 q1)))), .second] [(.long ((((S4 (S2 (S1 q1)))).toUInt64 >>> ((8 : Int32) &&& 0x3f).toInt64.toUInt64).toInt64)), (.long ((S4 (S2 (S1 q1))) &&& (71777214294589695 : Int64)))])) rfl (hb hby d4_68) _ k) ?_
        show Own.Fin p e below (s₁.setTop (mkF m 71 #[.val (.long q1), .second, .val (.int p2), .val (.long (S4 (S2 (S1 q1)))), .second] [(.long (71777214294589695 : Int64)), (.long ((((S4 (S2 (S1 q1)))).toUInt64 >>> ((8 : Int32) &&& 0x3f).toInt64.toUInt64).toInt64)), (.long ((S4 (S2 (S1 q1))) &&& (71777214294589695 : Int64)))])) _
        refine Own.go (fun t k => XS.land X0.here hx rfl (hb hby d4_71) rfl k) ?_
        show Own.Fin p e below (s₁.setTop (mkF m 72 #[.val (.long q1), .second, .val (.int p2), .val (.long (S4 (S2 (S1 q1)))), .second] [(.long (((((S4 (S2 (S1 q1)))).toUInt64 >>> ((8 : Int32) &&& 0x3f).toInt64.toUInt64).toInt64) &&& (71777214294589695 : Int64))), (.long ((S4 (S2 (S1 q1))) &&& (71777214294589695 : Int64)))])) _
        refine Own.go (fun t k => XS.ladd X0.here hx rfl (hb hby d4_72) rfl k) ?_
        show Own.Fin p e below (s₁.setTop (mkF m 73 #[.val (.long q1), .second, .val (.int p2), .val (.long (S4 (S2 (S1 q1)))), .second] [(.long (((S4 (S2 (S1 q1))) &&& (71777214294589695 : Int64)) + (((((S4 (S2 (S1 q1)))).toUInt64 >>> ((8 : Int32) &&& 0x3f).toInt64.toUInt64).toInt64) &&& (71777214294589695 : Int64))))])) _
        show Own.Fin p e below (s₁.setTop (mkF m 73 #[.val (.long q1), .second, .val (.int p2), .val (.long (S4 (S2 (S1 q1)))), .second] [(.long (S8 (S4 (S2 (S1 q1)))))])) _
        refine Own.go (fun t k => XS.lstoreN X0.here hx rfl (hb hby d4_73) rfl (l' := #[.val (.long q1), .second, .val (.int p2), .val (.long (S8 (S4 (S2 (S1 q1))))), .second]) rfl k) ?_
        show Own.Fin p e below (s₁.setTop (mkF m 74 #[.val (.long q1), .second, .val (.int p2), .val (.long (S8 (S4 (S2 (S1 q1))))), .second] [])) _
        refine Own.go (fun t k => XS.lloadN X0.here hx rfl (hb hby d4_74) rfl k) ?_
        show Own.Fin p e below (s₁.setTop (mkF m 75 #[.val (.long q1), .second, .val (.int p2), .val (.long (S8 (S4 (S2 (S1 q1))))), .second] [(.long (S8 (S4 (S2 (S1 q1)))))])) _
        refine Own.go (fun t k => X0.ldc2Long hx hown (mvT hZ (hw _ (List.mem_of_getElem? (i := 30) rfl))) (g := (mkF m 75 #[.val (.long q1), .second, .val (.int p2), .val (.long (S8 (S4 (S2 (S1 q1))))), .second] [(.long (S8 (S4 (S2 (S1 q1)))))])) rfl (hb hby d4_75) _ k) ?_
        show Own.Fin p e below (s₁.setTop (mkF m 78 #[.val (.long q1), .second, .val (.int p2), .val (.long (S8 (S4 (S2 (S1 q1))))), .second] [(.long (281470681808895 : Int64)), (.long (S8 (S4 (S2 (S1 q1)))))])) _
        refine Own.go (fun t k => XS.land X0.here hx rfl (hb hby d4_78) rfl k) ?_
        show Own.Fin p e below (s₁.setTop (mkF m 79 #[.val (.long q1), .second, .val (.int p2), .val (.long (S8 (S4 (S2 (S1 q1))))), .second] [(.long ((S8 (S4 (S2 (S1 q1)))) &&& (281470681808895 : Int64)))])) _
        refine Own.go (fun t k => XS.lloadN X0.here hx rfl (hb hby d4_79) rfl k) ?_
        show Own.Fin p e below (s₁.setTop (mkF m 80 #[.val (.long q1), .second, .val (.int p2), .val (.long (S8 (S4 (S2 (S1 q1))))), .second] [(.long (S8 (S4 (S2 (S1 q1))))), (.long ((S8 (S4 (S2 (S1 q1)))) &&& (281470681808895 : Int64)))])) _
        refine Own.go (fun t k => XS.bipush X0.here hx rfl (hb hby d4_80) k) ?_
        show Own.Fin p e below (s₁.setTop (mkF m 82 #[.val (.long q1), .second, .val (.int p2), .val (.long (S8 (S4 (S2 (S1 q1))))), .second] [(.int (16 : Int32)), (.long (S8 (S4 (S2 (S1 q1))))), (.long ((S8 (S4 (S2 (S1 q1)))) &&& (281470681808895 : Int64)))])) _
        refine Own.go (fun t k => XS.lushr X0.here hx rfl (hb hby d4_82) rfl k) ?_
        show Own.Fin p e below (s₁.setTop (mkF m 83 #[.val (.long q1), .second, .val (.int p2), .val (.long (S8 (S4 (S2 (S1 q1))))), .second] [(.long ((((S8 (S4 (S2 (S1 q1))))).toUInt64 >>> ((16 : Int32) &&& 0x3f).toInt64.toUInt64).toInt64)), (.long ((S8 (S4 (S2 (S1 q1)))) &&& (281470681808895 : Int64)))])) _
        refine Own.go (fun t k => X0.ldc2Long hx hown (mvT hZ (hw _ (List.mem_of_getElem? (i := 30) rfl))) (g := (mkF m 83 #[.val (.long q1), .second, .val (.int p2), .val (.long (S8 (S4 (S2 (S1 q1))))), .second] [(.long ((((S8 (S4 (S2 (S1 q1))))).toUInt64 >>> ((16 : Int32) &&& 0x3f).toInt64.toUInt64).toInt64)), (.long ((S8 (S4 (S2 (S1 q1)))) &&& (281470681808895 : Int64)))])) rfl (hb hby d4_83) _ k) ?_
        show Own.Fin p e below (s₁.setTop (mkF m 86 #[.val (.long q1), .second, .val (.int p2), .val (.long (S8 (S4 (S2 (S1 q1))))), .second] [(.long (281470681808895 : Int64)), (.long ((((S8 (S4 (S2 (S1 q1))))).toUInt64 >>> ((16 : Int32) &&& 0x3f).toInt64.toUInt64).toInt64)), (.long ((S8 (S4 (S2 (S1 q1)))) &&& (281470681808895 : Int64)))])) _
        refine Own.go (fun t k => XS.land X0.here hx rfl (hb hby d4_86) rfl k) ?_
        show Own.Fin p e below (s₁.setTop (mkF m 87 #[.val (.long q1), .second, .val (.int p2), .val (.long (S8 (S4 (S2 (S1 q1))))), .second] [(.long (((((S8 (S4 (S2 (S1 q1))))).toUInt64 >>> ((16 : Int32) &&& 0x3f).toInt64.toUInt64).toInt64) &&& (281470681808895 : Int64))), (.long ((S8 (S4 (S2 (S1 q1)))) &&& (281470681808895 : Int64)))])) _
        refine Own.go (fun t k => XS.ladd X0.here hx rfl (hb hby d4_87) rfl k) ?_
        show Own.Fin p e below (s₁.setTop (mkF m 88 #[.val (.long q1), .second, .val (.int p2), .val (.long (S8 (S4 (S2 (S1 q1))))), .second] [(.long (((S8 (S4 (S2 (S1 q1)))) &&& (281470681808895 : Int64)) + (((((S8 (S4 (S2 (S1 q1))))).toUInt64 >>> ((16 : Int32) &&& 0x3f).toInt64.toUInt64).toInt64) &&& (281470681808895 : Int64))))])) _
        show Own.Fin p e below (s₁.setTop (mkF m 88 #[.val (.long q1), .second, .val (.int p2), .val (.long (S8 (S4 (S2 (S1 q1))))), .second] [(.long (S16 (S8 (S4 (S2 (S1 q1))))))])) _
        refine Own.go (fun t k => XS.lstoreN X0.here hx rfl (hb hby d4_88) rfl (l' := #[.val (.long q1), .second, .val (.int p2), .val (.long (S16 (S8 (S4 (S2 (S1 q1)))))), .second]) rfl k) ?_
        show Own.Fin p e below (s₁.setTop (mkF m 89 #[.val (.long q1), .second, .val (.int p2), .val (.long (S16 (S8 (S4 (S2 (S1 q1)))))), .second] [])) _
        refine Own.go (fun t k => XS.lloadN X0.here hx rfl (hb hby d4_89) rfl k) ?_
        show Own.Fin p e below (s₁.setTop (mkF m 90 #[.val (.long q1), .second, .val (.int p2), .val (.long (S16 (S8 (S4 (S2 (S1 q1)))))), .second] [(.long (S16 (S8 (S4 (S2 (S1 q1))))))])) _
        refine Own.go (fun t k => X0.ldc2Long hx hown (mvT hZ (hw _ (List.mem_of_getElem? (i := 31) rfl))) (g := (mkF m 90 #[.val (.long q1), .second, .val (.int p2), .val (.long (S16 (S8 (S4 (S2 (S1 q1)))))), .second] [(.long (S16 (S8 (S4 (S2 (S1 q1))))))])) rfl (hb hby d4_90) _ k) ?_
        show Own.Fin p e below (s₁.setTop (mkF m 93 #[.val (.long q1), .second, .val (.int p2), .val (.long (S16 (S8 (S4 (S2 (S1 q1)))))), .second] [(.long (4294967295 : Int64)), (.long (S16 (S8 (S4 (S2 (S1 q1))))))])) _
        refine Own.go (fun t k => XS.land X0.here hx rfl (hb hby d4_93) rfl k) ?_
        show Own.Fin p e below (s₁.setTop (mkF m 94 #[.val (.long q1), .second, .val (.int p2), .val (.long (S16 (S8 (S4 (S2 (S1 q1)))))), .second] [(.long ((S16 (S8 (S4 (S2 (S1 q1))))) &&& (4294967295 : Int64)))])) _
        refine Own.go (fun t k => XS.lloadN X0.here hx rfl (hb hby d4_94) rfl k) ?_
        show Own.Fin p e below (s₁.setTop (mkF m 95 #[.val (.long q1), .second, .val (.int p2), .val (.long (S16 (S8 (S4 (S2 (S1 q1)))))), .second] [(.long (S16 (S8 (S4 (S2 (S1 q1)))))), (.long ((S16 (S8 (S4 (S2 (S1 q1))))) &&& (4294967295 : Int64)))])) _
        refine Own.go (fun t k => XS.bipush X0.here hx rfl (hb hby d4_95) k) ?_
        show Own.Fin p e below (s₁.setTop (mkF m 97 #[.val (.long q1), .second, .val (.int p2), .val (.long (S16 (S8 (S4 (S2 (S1 q1)))))), .second] [(.int (32 : Int32)), (.long (S16 (S8 (S4 (S2 (S1 q1)))))), (.long ((S16 (S8 (S4 (S2 (S1 q1))))) &&& (4294967295 : Int64)))])) _
        refine Own.go (fun t k => XS.lushr X0.here hx rfl (hb hby d4_97) rfl k) ?_
        show Own.Fin p e below (s₁.setTop (mkF m 98 #[.val (.long q1), .second, .val (.int p2), .val (.long (S16 (S8 (S4 (S2 (S1 q1)))))), .second] [(.long ((((S16 (S8 (S4 (S2 (S1 q1)))))).toUInt64 >>> ((32 : Int32) &&& 0x3f).toInt64.toUInt64).toInt64)), (.long ((S16 (S8 (S4 (S2 (S1 q1))))) &&& (4294967295 : Int64)))])) _
        refine Own.go (fun t k => XS.ladd X0.here hx rfl (hb hby d4_98) rfl k) ?_
        show Own.Fin p e below (s₁.setTop (mkF m 99 #[.val (.long q1), .second, .val (.int p2), .val (.long (S16 (S8 (S4 (S2 (S1 q1)))))), .second] [(.long (((S16 (S8 (S4 (S2 (S1 q1))))) &&& (4294967295 : Int64)) + ((((S16 (S8 (S4 (S2 (S1 q1)))))).toUInt64 >>> ((32 : Int32) &&& 0x3f).toInt64.toUInt64).toInt64)))])) _
        show Own.Fin p e below (s₁.setTop (mkF m 99 #[.val (.long q1), .second, .val (.int p2), .val (.long (S16 (S8 (S4 (S2 (S1 q1)))))), .second] [(.long (S32 (S16 (S8 (S4 (S2 (S1 q1)))))))])) _
        refine Own.go (fun t k => XS.l2i X0.here hx rfl (hb hby d4_99) rfl k) ?_
        show Own.Fin p e below (s₁.setTop (mkF m 100 #[.val (.long q1), .second, .val (.int p2), .val (.long (S16 (S8 (S4 (S2 (S1 q1)))))), .second] [(.int (((S32 (S16 (S8 (S4 (S2 (S1 q1))))))).toInt32))])) _
        refine Own.retI X0 hx Bd.notSynchronized Bd.returns (hb hby d4_100) (by decide) (by decide) ?_
        exact ⟨by rw [show F_fs q1 p2 = (((S32 (S16 (S8 (S4 (S2 (S1 q1))))))).toInt32) by rw [F_fs, if_pos hc4_0, if_neg hc23_1, if_neg hc42_3]], N0, e0⟩
  · skip
    refine Own.go (fun t k => XS.icmpYes X0.here hx rfl (pc0 := 4) (pc' := 21) rfl (hb hby d4_4) rfl (feq hc4_0).2 (by decide) (by decide) k) ?_
    show Own.Fin p e below (s₁.setTop (mkF m 21 #[.val (.long q1), .second, .val (.int p2), .val (.long q1), .second] [])) _
    refine Own.go (fun t k => XS.iloadN X0.here hx rfl (hb hby d4_21) rfl k) ?_
    show Own.Fin p e below (s₁.setTop (mkF m 22 #[.val (.long q1), .second, .val (.int p2), .val (.long q1), .second] [(.int p2)])) _
    refine Own.go (fun t k => XS.iconst X0.here hx rfl (hb hby d4_22) k) ?_
    show Own.Fin p e below (s₁.setTop (mkF m 23 #[.val (.long q1), .second, .val (.int p2), .val (.long q1), .second] [(.int (2 : Int32)), (.int p2)])) _
    by_cases hc23_4 : (2 : Int32) < p2
    · skip
      refine Own.go (fun t k => XS.icmpYes X0.here hx rfl (pc0 := 23) (pc' := 40) rfl (hb hby d4_23) rfl (tlt hc23_4).2.2.1 (by decide) (by decide) k) ?_
      show Own.Fin p e below (s₁.setTop (mkF m 40 #[.val (.long q1), .second, .val (.int p2), .val (.long q1), .second] [])) _
      refine Own.go (fun t k => XS.iloadN X0.here hx rfl (hb hby d4_40) rfl k) ?_
      show Own.Fin p e below (s₁.setTop (mkF m 41 #[.val (.long q1), .second, .val (.int p2), .val (.long q1), .second] [(.int p2)])) _
      refine Own.go (fun t k => XS.iconst X0.here hx rfl (hb hby d4_41) k) ?_
      show Own.Fin p e below (s₁.setTop (mkF m 42 #[.val (.long q1), .second, .val (.int p2), .val (.long q1), .second] [(.int (4 : Int32)), (.int p2)])) _
      by_cases hc42_5 : (4 : Int32) < p2
      · skip
        refine Own.go (fun t k => XS.icmpYes X0.here hx rfl (pc0 := 42) (pc' := 59) rfl (hb hby d4_42) rfl (tlt hc42_5).2.2.1 (by decide) (by decide) k) ?_
        show Own.Fin p e below (s₁.setTop (mkF m 59 #[.val (.long q1), .second, .val (.int p2), .val (.long q1), .second] [])) _
        refine Own.go (fun t k => XS.lloadN X0.here hx rfl (hb hby d4_59) rfl k) ?_
        show Own.Fin p e below (s₁.setTop (mkF m 60 #[.val (.long q1), .second, .val (.int p2), .val (.long q1), .second] [(.long q1)])) _
        refine Own.go (fun t k => X0.ldc2Long hx hown (mvT hZ (hw _ (List.mem_of_getElem? (i := 29) rfl))) (g := (mkF m 60 #[.val (.long q1), .second, .val (.int p2), .val (.long q1), .second] [(.long q1)])) rfl (hb hby d4_60) _ k) ?_
        show Own.Fin p e below (s₁.setTop (mkF m 63 #[.val (.long q1), .second, .val (.int p2), .val (.long q1), .second] [(.long (71777214294589695 : Int64)), (.long q1)])) _
        refine Own.go (fun t k => XS.land X0.here hx rfl (hb hby d4_63) rfl k) ?_
        show Own.Fin p e below (s₁.setTop (mkF m 64 #[.val (.long q1), .second, .val (.int p2), .val (.long q1), .second] [(.long (q1 &&& (71777214294589695 : Int64)))])) _
        refine Own.go (fun t k => XS.lloadN X0.here hx rfl (hb hby d4_64) rfl k) ?_
        show Own.Fin p e below (s₁.setTop (mkF m 65 #[.val (.long q1), .second, .val (.int p2), .val (.long q1), .second] [(.long q1), (.long (q1 &&& (71777214294589695 : Int64)))])) _
        refine Own.go (fun t k => XS.bipush X0.here hx rfl (hb hby d4_65) k) ?_
        show Own.Fin p e below (s₁.setTop (mkF m 67 #[.val (.long q1), .second, .val (.int p2), .val (.long q1), .second] [(.int (8 : Int32)), (.long q1), (.long (q1 &&& (71777214294589695 : Int64)))])) _
        refine Own.go (fun t k => XS.lushr X0.here hx rfl (hb hby d4_67) rfl k) ?_
        show Own.Fin p e below (s₁.setTop (mkF m 68 #[.val (.long q1), .second, .val (.int p2), .val (.long q1), .second] [(.long (((q1).toUInt64 >>> ((8 : Int32) &&& 0x3f).toInt64.toUInt64).toInt64)), (.long (q1 &&& (71777214294589695 : Int64)))])) _
        refine Own.go (fun t k => X0.ldc2Long hx hown (mvT hZ (hw _ (List.mem_of_getElem? (i := 29) rfl))) (g := (mkF m 68 #[.val (.long q1), .second, .val (.int p2), .val (.long q1), .second] [(.long (((q1).toUInt64 >>> ((8 : Int32) &&& 0x3f).toInt64.toUInt64).toInt64)), (.long (q1 &&& (71777214294589695 : Int64)))])) rfl (hb hby d4_68) _ k) ?_
        show Own.Fin p e below (s₁.setTop (mkF m 71 #[.val (.long q1), .second, .val (.int p2), .val (.long q1), .second] [(.long (71777214294589695 : Int64)), (.long (((q1).toUInt64 >>> ((8 : Int32) &&& 0x3f).toInt64.toUInt64).toInt64)), (.long (q1 &&& (71777214294589695 : Int64)))])) _
        refine Own.go (fun t k => XS.land X0.here hx rfl (hb hby d4_71) rfl k) ?_
        show Own.Fin p e below (s₁.setTop (mkF m 72 #[.val (.long q1), .second, .val (.int p2), .val (.long q1), .second] [(.long ((((q1).toUInt64 >>> ((8 : Int32) &&& 0x3f).toInt64.toUInt64).toInt64) &&& (71777214294589695 : Int64))), (.long (q1 &&& (71777214294589695 : Int64)))])) _
        refine Own.go (fun t k => XS.ladd X0.here hx rfl (hb hby d4_72) rfl k) ?_
        show Own.Fin p e below (s₁.setTop (mkF m 73 #[.val (.long q1), .second, .val (.int p2), .val (.long q1), .second] [(.long ((q1 &&& (71777214294589695 : Int64)) + ((((q1).toUInt64 >>> ((8 : Int32) &&& 0x3f).toInt64.toUInt64).toInt64) &&& (71777214294589695 : Int64))))])) _
        show Own.Fin p e below (s₁.setTop (mkF m 73 #[.val (.long q1), .second, .val (.int p2), .val (.long q1), .second] [(.long (S8 q1))])) _
        refine Own.go (fun t k => XS.lstoreN X0.here hx rfl (hb hby d4_73) rfl (l' := #[.val (.long q1), .second, .val (.int p2), .val (.long (S8 q1)), .second]) rfl k) ?_
        show Own.Fin p e below (s₁.setTop (mkF m 74 #[.val (.long q1), .second, .val (.int p2), .val (.long (S8 q1)), .second] [])) _
        refine Own.go (fun t k => XS.lloadN X0.here hx rfl (hb hby d4_74) rfl k) ?_
        show Own.Fin p e below (s₁.setTop (mkF m 75 #[.val (.long q1), .second, .val (.int p2), .val (.long (S8 q1)), .second] [(.long (S8 q1))])) _
        refine Own.go (fun t k => X0.ldc2Long hx hown (mvT hZ (hw _ (List.mem_of_getElem? (i := 30) rfl))) (g := (mkF m 75 #[.val (.long q1), .second, .val (.int p2), .val (.long (S8 q1)), .second] [(.long (S8 q1))])) rfl (hb hby d4_75) _ k) ?_
        show Own.Fin p e below (s₁.setTop (mkF m 78 #[.val (.long q1), .second, .val (.int p2), .val (.long (S8 q1)), .second] [(.long (281470681808895 : Int64)), (.long (S8 q1))])) _
        refine Own.go (fun t k => XS.land X0.here hx rfl (hb hby d4_78) rfl k) ?_
        show Own.Fin p e below (s₁.setTop (mkF m 79 #[.val (.long q1), .second, .val (.int p2), .val (.long (S8 q1)), .second] [(.long ((S8 q1) &&& (281470681808895 : Int64)))])) _
        refine Own.go (fun t k => XS.lloadN X0.here hx rfl (hb hby d4_79) rfl k) ?_
        show Own.Fin p e below (s₁.setTop (mkF m 80 #[.val (.long q1), .second, .val (.int p2), .val (.long (S8 q1)), .second] [(.long (S8 q1)), (.long ((S8 q1) &&& (281470681808895 : Int64)))])) _
        refine Own.go (fun t k => XS.bipush X0.here hx rfl (hb hby d4_80) k) ?_
        show Own.Fin p e below (s₁.setTop (mkF m 82 #[.val (.long q1), .second, .val (.int p2), .val (.long (S8 q1)), .second] [(.int (16 : Int32)), (.long (S8 q1)), (.long ((S8 q1) &&& (281470681808895 : Int64)))])) _
        refine Own.go (fun t k => XS.lushr X0.here hx rfl (hb hby d4_82) rfl k) ?_
        show Own.Fin p e below (s₁.setTop (mkF m 83 #[.val (.long q1), .second, .val (.int p2), .val (.long (S8 q1)), .second] [(.long ((((S8 q1)).toUInt64 >>> ((16 : Int32) &&& 0x3f).toInt64.toUInt64).toInt64)), (.long ((S8 q1) &&& (281470681808895 : Int64)))])) _
        refine Own.go (fun t k => X0.ldc2Long hx hown (mvT hZ (hw _ (List.mem_of_getElem? (i := 30) rfl))) (g := (mkF m 83 #[.val (.long q1), .second, .val (.int p2), .val (.long (S8 q1)), .second] [(.long ((((S8 q1)).toUInt64 >>> ((16 : Int32) &&& 0x3f).toInt64.toUInt64).toInt64)), (.long ((S8 q1) &&& (281470681808895 : Int64)))])) rfl (hb hby d4_83) _ k) ?_
        show Own.Fin p e below (s₁.setTop (mkF m 86 #[.val (.long q1), .second, .val (.int p2), .val (.long (S8 q1)), .second] [(.long (281470681808895 : Int64)), (.long ((((S8 q1)).toUInt64 >>> ((16 : Int32) &&& 0x3f).toInt64.toUInt64).toInt64)), (.long ((S8 q1) &&& (281470681808895 : Int64)))])) _
        refine Own.go (fun t k => XS.land X0.here hx rfl (hb hby d4_86) rfl k) ?_
        show Own.Fin p e below (s₁.setTop (mkF m 87 #[.val (.long q1), .second, .val (.int p2), .val (.long (S8 q1)), .second] [(.long (((((S8 q1)).toUInt64 >>> ((16 : Int32) &&& 0x3f).toInt64.toUInt64).toInt64) &&& (281470681808895 : Int64))), (.long ((S8 q1) &&& (281470681808895 : Int64)))])) _
        refine Own.go (fun t k => XS.ladd X0.here hx rfl (hb hby d4_87) rfl k) ?_
        show Own.Fin p e below (s₁.setTop (mkF m 88 #[.val (.long q1), .second, .val (.int p2), .val (.long (S8 q1)), .second] [(.long (((S8 q1) &&& (281470681808895 : Int64)) + (((((S8 q1)).toUInt64 >>> ((16 : Int32) &&& 0x3f).toInt64.toUInt64).toInt64) &&& (281470681808895 : Int64))))])) _
        show Own.Fin p e below (s₁.setTop (mkF m 88 #[.val (.long q1), .second, .val (.int p2), .val (.long (S8 q1)), .second] [(.long (S16 (S8 q1)))])) _
        refine Own.go (fun t k => XS.lstoreN X0.here hx rfl (hb hby d4_88) rfl (l' := #[.val (.long q1), .second, .val (.int p2), .val (.long (S16 (S8 q1))), .second]) rfl k) ?_
        show Own.Fin p e below (s₁.setTop (mkF m 89 #[.val (.long q1), .second, .val (.int p2), .val (.long (S16 (S8 q1))), .second] [])) _
        refine Own.go (fun t k => XS.lloadN X0.here hx rfl (hb hby d4_89) rfl k) ?_
        show Own.Fin p e below (s₁.setTop (mkF m 90 #[.val (.long q1), .second, .val (.int p2), .val (.long (S16 (S8 q1))), .second] [(.long (S16 (S8 q1)))])) _
        refine Own.go (fun t k => X0.ldc2Long hx hown (mvT hZ (hw _ (List.mem_of_getElem? (i := 31) rfl))) (g := (mkF m 90 #[.val (.long q1), .second, .val (.int p2), .val (.long (S16 (S8 q1))), .second] [(.long (S16 (S8 q1)))])) rfl (hb hby d4_90) _ k) ?_
        show Own.Fin p e below (s₁.setTop (mkF m 93 #[.val (.long q1), .second, .val (.int p2), .val (.long (S16 (S8 q1))), .second] [(.long (4294967295 : Int64)), (.long (S16 (S8 q1)))])) _
        refine Own.go (fun t k => XS.land X0.here hx rfl (hb hby d4_93) rfl k) ?_
        show Own.Fin p e below (s₁.setTop (mkF m 94 #[.val (.long q1), .second, .val (.int p2), .val (.long (S16 (S8 q1))), .second] [(.long ((S16 (S8 q1)) &&& (4294967295 : Int64)))])) _
        refine Own.go (fun t k => XS.lloadN X0.here hx rfl (hb hby d4_94) rfl k) ?_
        show Own.Fin p e below (s₁.setTop (mkF m 95 #[.val (.long q1), .second, .val (.int p2), .val (.long (S16 (S8 q1))), .second] [(.long (S16 (S8 q1))), (.long ((S16 (S8 q1)) &&& (4294967295 : Int64)))])) _
        refine Own.go (fun t k => XS.bipush X0.here hx rfl (hb hby d4_95) k) ?_
        show Own.Fin p e below (s₁.setTop (mkF m 97 #[.val (.long q1), .second, .val (.int p2), .val (.long (S16 (S8 q1))), .second] [(.int (32 : Int32)), (.long (S16 (S8 q1))), (.long ((S16 (S8 q1)) &&& (4294967295 : Int64)))])) _
        refine Own.go (fun t k => XS.lushr X0.here hx rfl (hb hby d4_97) rfl k) ?_
        show Own.Fin p e below (s₁.setTop (mkF m 98 #[.val (.long q1), .second, .val (.int p2), .val (.long (S16 (S8 q1))), .second] [(.long ((((S16 (S8 q1))).toUInt64 >>> ((32 : Int32) &&& 0x3f).toInt64.toUInt64).toInt64)), (.long ((S16 (S8 q1)) &&& (4294967295 : Int64)))])) _
        refine Own.go (fun t k => XS.ladd X0.here hx rfl (hb hby d4_98) rfl k) ?_
        show Own.Fin p e below (s₁.setTop (mkF m 99 #[.val (.long q1), .second, .val (.int p2), .val (.long (S16 (S8 q1))), .second] [(.long (((S16 (S8 q1)) &&& (4294967295 : Int64)) + ((((S16 (S8 q1))).toUInt64 >>> ((32 : Int32) &&& 0x3f).toInt64.toUInt64).toInt64)))])) _
        show Own.Fin p e below (s₁.setTop (mkF m 99 #[.val (.long q1), .second, .val (.int p2), .val (.long (S16 (S8 q1))), .second] [(.long (S32 (S16 (S8 q1))))])) _
        refine Own.go (fun t k => XS.l2i X0.here hx rfl (hb hby d4_99) rfl k) ?_
        show Own.Fin p e below (s₁.setTop (mkF m 100 #[.val (.long q1), .second, .val (.int p2), .val (.long (S16 (S8 q1))), .second] [(.int (((S32 (S16 (S8 q1)))).toInt32))])) _
        refine Own.retI X0 hx Bd.notSynchronized Bd.returns (hb hby d4_100) (by decide) (by decide) ?_
        exact ⟨by rw [show F_fs q1 p2 = (((S32 (S16 (S8 q1)))).toInt32) by rw [F_fs, if_neg hc4_0, if_pos hc23_4, if_pos hc42_5]], N0, e0⟩
      · skip
        refine Own.go (fun t k => XS.icmpNo X0.here hx rfl (hb hby d4_42) rfl (flt hc42_5).2.2.1 k) ?_
        show Own.Fin p e below (s₁.setTop (mkF m 45 #[.val (.long q1), .second, .val (.int p2), .val (.long q1), .second] [])) _
        refine Own.go (fun t k => XS.lloadN X0.here hx rfl (hb hby d4_45) rfl k) ?_
        show Own.Fin p e below (s₁.setTop (mkF m 46 #[.val (.long q1), .second, .val (.int p2), .val (.long q1), .second] [(.long q1)])) _
        refine Own.go (fun t k => X0.ldc2Long hx hown (mvT hZ (hw _ (List.mem_of_getElem? (i := 39) rfl))) (g := (mkF m 46 #[.val (.long q1), .second, .val (.int p2), .val (.long q1), .second] [(.long q1)])) rfl (hb hby d4_46) _ k) ?_
        show Own.Fin p e below (s₁.setTop (mkF m 49 #[.val (.long q1), .second, .val (.int p2), .val (.long q1), .second] [(.long (1085102592571150095 : Int64)), (.long q1)])) _
        refine Own.go (fun t k => XS.land X0.here hx rfl (hb hby d4_49) rfl k) ?_
        show Own.Fin p e below (s₁.setTop (mkF m 50 #[.val (.long q1), .second, .val (.int p2), .val (.long q1), .second] [(.long (q1 &&& (1085102592571150095 : Int64)))])) _
        refine Own.go (fun t k => XS.lloadN X0.here hx rfl (hb hby d4_50) rfl k) ?_
        show Own.Fin p e below (s₁.setTop (mkF m 51 #[.val (.long q1), .second, .val (.int p2), .val (.long q1), .second] [(.long q1), (.long (q1 &&& (1085102592571150095 : Int64)))])) _
        refine Own.go (fun t k => XS.iconst X0.here hx rfl (hb hby d4_51) k) ?_
        show Own.Fin p e below (s₁.setTop (mkF m 52 #[.val (.long q1), .second, .val (.int p2), .val (.long q1), .second] [(.int (4 : Int32)), (.long q1), (.long (q1 &&& (1085102592571150095 : Int64)))])) _
        refine Own.go (fun t k => XS.lushr X0.here hx rfl (hb hby d4_52) rfl k) ?_
        show Own.Fin p e below (s₁.setTop (mkF m 53 #[.val (.long q1), .second, .val (.int p2), .val (.long q1), .second] [(.long (((q1).toUInt64 >>> ((4 : Int32) &&& 0x3f).toInt64.toUInt64).toInt64)), (.long (q1 &&& (1085102592571150095 : Int64)))])) _
        refine Own.go (fun t k => X0.ldc2Long hx hown (mvT hZ (hw _ (List.mem_of_getElem? (i := 39) rfl))) (g := (mkF m 53 #[.val (.long q1), .second, .val (.int p2), .val (.long q1), .second] [(.long (((q1).toUInt64 >>> ((4 : Int32) &&& 0x3f).toInt64.toUInt64).toInt64)), (.long (q1 &&& (1085102592571150095 : Int64)))])) rfl (hb hby d4_53) _ k) ?_
        show Own.Fin p e below (s₁.setTop (mkF m 56 #[.val (.long q1), .second, .val (.int p2), .val (.long q1), .second] [(.long (1085102592571150095 : Int64)), (.long (((q1).toUInt64 >>> ((4 : Int32) &&& 0x3f).toInt64.toUInt64).toInt64)), (.long (q1 &&& (1085102592571150095 : Int64)))])) _
        refine Own.go (fun t k => XS.land X0.here hx rfl (hb hby d4_56) rfl k) ?_
        show Own.Fin p e below (s₁.setTop (mkF m 57 #[.val (.long q1), .second, .val (.int p2), .val (.long q1), .second] [(.long ((((q1).toUInt64 >>> ((4 : Int32) &&& 0x3f).toInt64.toUInt64).toInt64) &&& (1085102592571150095 : Int64))), (.long (q1 &&& (1085102592571150095 : Int64)))])) _
        refine Own.go (fun t k => XS.ladd X0.here hx rfl (hb hby d4_57) rfl k) ?_
        show Own.Fin p e below (s₁.setTop (mkF m 58 #[.val (.long q1), .second, .val (.int p2), .val (.long q1), .second] [(.long ((q1 &&& (1085102592571150095 : Int64)) + ((((q1).toUInt64 >>> ((4 : Int32) &&& 0x3f).toInt64.toUInt64).toInt64) &&& (1085102592571150095 : Int64))))])) _
        show Own.Fin p e below (s₁.setTop (mkF m 58 #[.val (.long q1), .second, .val (.int p2), .val (.long q1), .second] [(.long (S4 q1))])) _
        refine Own.go (fun t k => XS.lstoreN X0.here hx rfl (hb hby d4_58) rfl (l' := #[.val (.long q1), .second, .val (.int p2), .val (.long (S4 q1)), .second]) rfl k) ?_
        show Own.Fin p e below (s₁.setTop (mkF m 59 #[.val (.long q1), .second, .val (.int p2), .val (.long (S4 q1)), .second] [])) _
        refine Own.go (fun t k => XS.lloadN X0.here hx rfl (hb hby d4_59) rfl k) ?_
        show Own.Fin p e below (s₁.setTop (mkF m 60 #[.val (.long q1), .second, .val (.int p2), .val (.long (S4 q1)), .second] [(.long (S4 q1))])) _
        refine Own.go (fun t k => X0.ldc2Long hx hown (mvT hZ (hw _ (List.mem_of_getElem? (i := 29) rfl))) (g := (mkF m 60 #[.val (.long q1), .second, .val (.int p2), .val (.long (S4 q1)), .second] [(.long (S4 q1))])) rfl (hb hby d4_60) _ k) ?_
        show Own.Fin p e below (s₁.setTop (mkF m 63 #[.val (.long q1), .second, .val (.int p2), .val (.long (S4 q1)), .second] [(.long (71777214294589695 : Int64)), (.long (S4 q1))])) _
        refine Own.go (fun t k => XS.land X0.here hx rfl (hb hby d4_63) rfl k) ?_
        show Own.Fin p e below (s₁.setTop (mkF m 64 #[.val (.long q1), .second, .val (.int p2), .val (.long (S4 q1)), .second] [(.long ((S4 q1) &&& (71777214294589695 : Int64)))])) _
        refine Own.go (fun t k => XS.lloadN X0.here hx rfl (hb hby d4_64) rfl k) ?_
        show Own.Fin p e below (s₁.setTop (mkF m 65 #[.val (.long q1), .second, .val (.int p2), .val (.long (S4 q1)), .second] [(.long (S4 q1)), (.long ((S4 q1) &&& (71777214294589695 : Int64)))])) _
        refine Own.go (fun t k => XS.bipush X0.here hx rfl (hb hby d4_65) k) ?_
        show Own.Fin p e below (s₁.setTop (mkF m 67 #[.val (.long q1), .second, .val (.int p2), .val (.long (S4 q1)), .second] [(.int (8 : Int32)), (.long (S4 q1)), (.long ((S4 q1) &&& (71777214294589695 : Int64)))])) _
        refine Own.go (fun t k => XS.lushr X0.here hx rfl (hb hby d4_67) rfl k) ?_
        show Own.Fin p e below (s₁.setTop (mkF m 68 #[.val (.long q1), .second, .val (.int p2), .val (.long (S4 q1)), .second] [(.long ((((S4 q1)).toUInt64 >>> ((8 : Int32) &&& 0x3f).toInt64.toUInt64).toInt64)), (.long ((S4 q1) &&& (71777214294589695 : Int64)))])) _
        refine Own.go (fun t k => X0.ldc2Long hx hown (mvT hZ (hw _ (List.mem_of_getElem? (i := 29) rfl))) (g := (mkF m 68 #[.val (.long q1), .second, .val (.int p2), .val (.long (S4 q1)), .second] [(.long ((((S4 q1)).toUInt64 >>> ((8 : Int32) &&& 0x3f).toInt64.toUInt64).toInt64)), (.long ((S4 q1) &&& (71777214294589695 : Int64)))])) rfl (hb hby d4_68) _ k) ?_
        show Own.Fin p e below (s₁.setTop (mkF m 71 #[.val (.long q1), .second, .val (.int p2), .val (.long (S4 q1)), .second] [(.long (71777214294589695 : Int64)), (.long ((((S4 q1)).toUInt64 >>> ((8 : Int32) &&& 0x3f).toInt64.toUInt64).toInt64)), (.long ((S4 q1) &&& (71777214294589695 : Int64)))])) _
        refine Own.go (fun t k => XS.land X0.here hx rfl (hb hby d4_71) rfl k) ?_
        show Own.Fin p e below (s₁.setTop (mkF m 72 #[.val (.long q1), .second, .val (.int p2), .val (.long (S4 q1)), .second] [(.long (((((S4 q1)).toUInt64 >>> ((8 : Int32) &&& 0x3f).toInt64.toUInt64).toInt64) &&& (71777214294589695 : Int64))), (.long ((S4 q1) &&& (71777214294589695 : Int64)))])) _
        refine Own.go (fun t k => XS.ladd X0.here hx rfl (hb hby d4_72) rfl k) ?_
        show Own.Fin p e below (s₁.setTop (mkF m 73 #[.val (.long q1), .second, .val (.int p2), .val (.long (S4 q1)), .second] [(.long (((S4 q1) &&& (71777214294589695 : Int64)) + (((((S4 q1)).toUInt64 >>> ((8 : Int32) &&& 0x3f).toInt64.toUInt64).toInt64) &&& (71777214294589695 : Int64))))])) _
        show Own.Fin p e below (s₁.setTop (mkF m 73 #[.val (.long q1), .second, .val (.int p2), .val (.long (S4 q1)), .second] [(.long (S8 (S4 q1)))])) _
        refine Own.go (fun t k => XS.lstoreN X0.here hx rfl (hb hby d4_73) rfl (l' := #[.val (.long q1), .second, .val (.int p2), .val (.long (S8 (S4 q1))), .second]) rfl k) ?_
        show Own.Fin p e below (s₁.setTop (mkF m 74 #[.val (.long q1), .second, .val (.int p2), .val (.long (S8 (S4 q1))), .second] [])) _
        refine Own.go (fun t k => XS.lloadN X0.here hx rfl (hb hby d4_74) rfl k) ?_
        show Own.Fin p e below (s₁.setTop (mkF m 75 #[.val (.long q1), .second, .val (.int p2), .val (.long (S8 (S4 q1))), .second] [(.long (S8 (S4 q1)))])) _
        refine Own.go (fun t k => X0.ldc2Long hx hown (mvT hZ (hw _ (List.mem_of_getElem? (i := 30) rfl))) (g := (mkF m 75 #[.val (.long q1), .second, .val (.int p2), .val (.long (S8 (S4 q1))), .second] [(.long (S8 (S4 q1)))])) rfl (hb hby d4_75) _ k) ?_
        show Own.Fin p e below (s₁.setTop (mkF m 78 #[.val (.long q1), .second, .val (.int p2), .val (.long (S8 (S4 q1))), .second] [(.long (281470681808895 : Int64)), (.long (S8 (S4 q1)))])) _
        refine Own.go (fun t k => XS.land X0.here hx rfl (hb hby d4_78) rfl k) ?_
        show Own.Fin p e below (s₁.setTop (mkF m 79 #[.val (.long q1), .second, .val (.int p2), .val (.long (S8 (S4 q1))), .second] [(.long ((S8 (S4 q1)) &&& (281470681808895 : Int64)))])) _
        refine Own.go (fun t k => XS.lloadN X0.here hx rfl (hb hby d4_79) rfl k) ?_
        show Own.Fin p e below (s₁.setTop (mkF m 80 #[.val (.long q1), .second, .val (.int p2), .val (.long (S8 (S4 q1))), .second] [(.long (S8 (S4 q1))), (.long ((S8 (S4 q1)) &&& (281470681808895 : Int64)))])) _
        refine Own.go (fun t k => XS.bipush X0.here hx rfl (hb hby d4_80) k) ?_
        show Own.Fin p e below (s₁.setTop (mkF m 82 #[.val (.long q1), .second, .val (.int p2), .val (.long (S8 (S4 q1))), .second] [(.int (16 : Int32)), (.long (S8 (S4 q1))), (.long ((S8 (S4 q1)) &&& (281470681808895 : Int64)))])) _
        refine Own.go (fun t k => XS.lushr X0.here hx rfl (hb hby d4_82) rfl k) ?_
        show Own.Fin p e below (s₁.setTop (mkF m 83 #[.val (.long q1), .second, .val (.int p2), .val (.long (S8 (S4 q1))), .second] [(.long ((((S8 (S4 q1))).toUInt64 >>> ((16 : Int32) &&& 0x3f).toInt64.toUInt64).toInt64)), (.long ((S8 (S4 q1)) &&& (281470681808895 : Int64)))])) _
        refine Own.go (fun t k => X0.ldc2Long hx hown (mvT hZ (hw _ (List.mem_of_getElem? (i := 30) rfl))) (g := (mkF m 83 #[.val (.long q1), .second, .val (.int p2), .val (.long (S8 (S4 q1))), .second] [(.long ((((S8 (S4 q1))).toUInt64 >>> ((16 : Int32) &&& 0x3f).toInt64.toUInt64).toInt64)), (.long ((S8 (S4 q1)) &&& (281470681808895 : Int64)))])) rfl (hb hby d4_83) _ k) ?_
        show Own.Fin p e below (s₁.setTop (mkF m 86 #[.val (.long q1), .second, .val (.int p2), .val (.long (S8 (S4 q1))), .second] [(.long (281470681808895 : Int64)), (.long ((((S8 (S4 q1))).toUInt64 >>> ((16 : Int32) &&& 0x3f).toInt64.toUInt64).toInt64)), (.long ((S8 (S4 q1)) &&& (281470681808895 : Int64)))])) _
        refine Own.go (fun t k => XS.land X0.here hx rfl (hb hby d4_86) rfl k) ?_
        show Own.Fin p e below (s₁.setTop (mkF m 87 #[.val (.long q1), .second, .val (.int p2), .val (.long (S8 (S4 q1))), .second] [(.long (((((S8 (S4 q1))).toUInt64 >>> ((16 : Int32) &&& 0x3f).toInt64.toUInt64).toInt64) &&& (281470681808895 : Int64))), (.long ((S8 (S4 q1)) &&& (281470681808895 : Int64)))])) _
        refine Own.go (fun t k => XS.ladd X0.here hx rfl (hb hby d4_87) rfl k) ?_
        show Own.Fin p e below (s₁.setTop (mkF m 88 #[.val (.long q1), .second, .val (.int p2), .val (.long (S8 (S4 q1))), .second] [(.long (((S8 (S4 q1)) &&& (281470681808895 : Int64)) + (((((S8 (S4 q1))).toUInt64 >>> ((16 : Int32) &&& 0x3f).toInt64.toUInt64).toInt64) &&& (281470681808895 : Int64))))])) _
        show Own.Fin p e below (s₁.setTop (mkF m 88 #[.val (.long q1), .second, .val (.int p2), .val (.long (S8 (S4 q1))), .second] [(.long (S16 (S8 (S4 q1))))])) _
        refine Own.go (fun t k => XS.lstoreN X0.here hx rfl (hb hby d4_88) rfl (l' := #[.val (.long q1), .second, .val (.int p2), .val (.long (S16 (S8 (S4 q1)))), .second]) rfl k) ?_
        show Own.Fin p e below (s₁.setTop (mkF m 89 #[.val (.long q1), .second, .val (.int p2), .val (.long (S16 (S8 (S4 q1)))), .second] [])) _
        refine Own.go (fun t k => XS.lloadN X0.here hx rfl (hb hby d4_89) rfl k) ?_
        show Own.Fin p e below (s₁.setTop (mkF m 90 #[.val (.long q1), .second, .val (.int p2), .val (.long (S16 (S8 (S4 q1)))), .second] [(.long (S16 (S8 (S4 q1))))])) _
        refine Own.go (fun t k => X0.ldc2Long hx hown (mvT hZ (hw _ (List.mem_of_getElem? (i := 31) rfl))) (g := (mkF m 90 #[.val (.long q1), .second, .val (.int p2), .val (.long (S16 (S8 (S4 q1)))), .second] [(.long (S16 (S8 (S4 q1))))])) rfl (hb hby d4_90) _ k) ?_
        show Own.Fin p e below (s₁.setTop (mkF m 93 #[.val (.long q1), .second, .val (.int p2), .val (.long (S16 (S8 (S4 q1)))), .second] [(.long (4294967295 : Int64)), (.long (S16 (S8 (S4 q1))))])) _
        refine Own.go (fun t k => XS.land X0.here hx rfl (hb hby d4_93) rfl k) ?_
        show Own.Fin p e below (s₁.setTop (mkF m 94 #[.val (.long q1), .second, .val (.int p2), .val (.long (S16 (S8 (S4 q1)))), .second] [(.long ((S16 (S8 (S4 q1))) &&& (4294967295 : Int64)))])) _
        refine Own.go (fun t k => XS.lloadN X0.here hx rfl (hb hby d4_94) rfl k) ?_
        show Own.Fin p e below (s₁.setTop (mkF m 95 #[.val (.long q1), .second, .val (.int p2), .val (.long (S16 (S8 (S4 q1)))), .second] [(.long (S16 (S8 (S4 q1)))), (.long ((S16 (S8 (S4 q1))) &&& (4294967295 : Int64)))])) _
        refine Own.go (fun t k => XS.bipush X0.here hx rfl (hb hby d4_95) k) ?_
        show Own.Fin p e below (s₁.setTop (mkF m 97 #[.val (.long q1), .second, .val (.int p2), .val (.long (S16 (S8 (S4 q1)))), .second] [(.int (32 : Int32)), (.long (S16 (S8 (S4 q1)))), (.long ((S16 (S8 (S4 q1))) &&& (4294967295 : Int64)))])) _
        refine Own.go (fun t k => XS.lushr X0.here hx rfl (hb hby d4_97) rfl k) ?_
        show Own.Fin p e below (s₁.setTop (mkF m 98 #[.val (.long q1), .second, .val (.int p2), .val (.long (S16 (S8 (S4 q1)))), .second] [(.long ((((S16 (S8 (S4 q1)))).toUInt64 >>> ((32 : Int32) &&& 0x3f).toInt64.toUInt64).toInt64)), (.long ((S16 (S8 (S4 q1))) &&& (4294967295 : Int64)))])) _
        refine Own.go (fun t k => XS.ladd X0.here hx rfl (hb hby d4_98) rfl k) ?_
        show Own.Fin p e below (s₁.setTop (mkF m 99 #[.val (.long q1), .second, .val (.int p2), .val (.long (S16 (S8 (S4 q1)))), .second] [(.long (((S16 (S8 (S4 q1))) &&& (4294967295 : Int64)) + ((((S16 (S8 (S4 q1)))).toUInt64 >>> ((32 : Int32) &&& 0x3f).toInt64.toUInt64).toInt64)))])) _
        show Own.Fin p e below (s₁.setTop (mkF m 99 #[.val (.long q1), .second, .val (.int p2), .val (.long (S16 (S8 (S4 q1)))), .second] [(.long (S32 (S16 (S8 (S4 q1)))))])) _
        refine Own.go (fun t k => XS.l2i X0.here hx rfl (hb hby d4_99) rfl k) ?_
        show Own.Fin p e below (s₁.setTop (mkF m 100 #[.val (.long q1), .second, .val (.int p2), .val (.long (S16 (S8 (S4 q1)))), .second] [(.int (((S32 (S16 (S8 (S4 q1))))).toInt32))])) _
        refine Own.retI X0 hx Bd.notSynchronized Bd.returns (hb hby d4_100) (by decide) (by decide) ?_
        exact ⟨by rw [show F_fs q1 p2 = (((S32 (S16 (S8 (S4 q1))))).toInt32) by rw [F_fs, if_neg hc4_0, if_pos hc23_4, if_neg hc42_5]], N0, e0⟩
    · skip
      refine Own.go (fun t k => XS.icmpNo X0.here hx rfl (hb hby d4_23) rfl (flt hc23_4).2.2.1 k) ?_
      show Own.Fin p e below (s₁.setTop (mkF m 26 #[.val (.long q1), .second, .val (.int p2), .val (.long q1), .second] [])) _
      refine Own.go (fun t k => XS.lloadN X0.here hx rfl (hb hby d4_26) rfl k) ?_
      show Own.Fin p e below (s₁.setTop (mkF m 27 #[.val (.long q1), .second, .val (.int p2), .val (.long q1), .second] [(.long q1)])) _
      refine Own.go (fun t k => X0.ldc2Long hx hown (mvT hZ (hw _ (List.mem_of_getElem? (i := 38) rfl))) (g := (mkF m 27 #[.val (.long q1), .second, .val (.int p2), .val (.long q1), .second] [(.long q1)])) rfl (hb hby d4_27) _ k) ?_
      show Own.Fin p e below (s₁.setTop (mkF m 30 #[.val (.long q1), .second, .val (.int p2), .val (.long q1), .second] [(.long (3689348814741910323 : Int64)), (.long q1)])) _
      refine Own.go (fun t k => XS.land X0.here hx rfl (hb hby d4_30) rfl k) ?_
      show Own.Fin p e below (s₁.setTop (mkF m 31 #[.val (.long q1), .second, .val (.int p2), .val (.long q1), .second] [(.long (q1 &&& (3689348814741910323 : Int64)))])) _
      refine Own.go (fun t k => XS.lloadN X0.here hx rfl (hb hby d4_31) rfl k) ?_
      show Own.Fin p e below (s₁.setTop (mkF m 32 #[.val (.long q1), .second, .val (.int p2), .val (.long q1), .second] [(.long q1), (.long (q1 &&& (3689348814741910323 : Int64)))])) _
      refine Own.go (fun t k => XS.iconst X0.here hx rfl (hb hby d4_32) k) ?_
      show Own.Fin p e below (s₁.setTop (mkF m 33 #[.val (.long q1), .second, .val (.int p2), .val (.long q1), .second] [(.int (2 : Int32)), (.long q1), (.long (q1 &&& (3689348814741910323 : Int64)))])) _
      refine Own.go (fun t k => XS.lushr X0.here hx rfl (hb hby d4_33) rfl k) ?_
      show Own.Fin p e below (s₁.setTop (mkF m 34 #[.val (.long q1), .second, .val (.int p2), .val (.long q1), .second] [(.long (((q1).toUInt64 >>> ((2 : Int32) &&& 0x3f).toInt64.toUInt64).toInt64)), (.long (q1 &&& (3689348814741910323 : Int64)))])) _
      refine Own.go (fun t k => X0.ldc2Long hx hown (mvT hZ (hw _ (List.mem_of_getElem? (i := 38) rfl))) (g := (mkF m 34 #[.val (.long q1), .second, .val (.int p2), .val (.long q1), .second] [(.long (((q1).toUInt64 >>> ((2 : Int32) &&& 0x3f).toInt64.toUInt64).toInt64)), (.long (q1 &&& (3689348814741910323 : Int64)))])) rfl (hb hby d4_34) _ k) ?_
      show Own.Fin p e below (s₁.setTop (mkF m 37 #[.val (.long q1), .second, .val (.int p2), .val (.long q1), .second] [(.long (3689348814741910323 : Int64)), (.long (((q1).toUInt64 >>> ((2 : Int32) &&& 0x3f).toInt64.toUInt64).toInt64)), (.long (q1 &&& (3689348814741910323 : Int64)))])) _
      refine Own.go (fun t k => XS.land X0.here hx rfl (hb hby d4_37) rfl k) ?_
      show Own.Fin p e below (s₁.setTop (mkF m 38 #[.val (.long q1), .second, .val (.int p2), .val (.long q1), .second] [(.long ((((q1).toUInt64 >>> ((2 : Int32) &&& 0x3f).toInt64.toUInt64).toInt64) &&& (3689348814741910323 : Int64))), (.long (q1 &&& (3689348814741910323 : Int64)))])) _
      refine Own.go (fun t k => XS.ladd X0.here hx rfl (hb hby d4_38) rfl k) ?_
      show Own.Fin p e below (s₁.setTop (mkF m 39 #[.val (.long q1), .second, .val (.int p2), .val (.long q1), .second] [(.long ((q1 &&& (3689348814741910323 : Int64)) + ((((q1).toUInt64 >>> ((2 : Int32) &&& 0x3f).toInt64.toUInt64).toInt64) &&& (3689348814741910323 : Int64))))])) _
      show Own.Fin p e below (s₁.setTop (mkF m 39 #[.val (.long q1), .second, .val (.int p2), .val (.long q1), .second] [(.long (S2 q1))])) _
      refine Own.go (fun t k => XS.lstoreN X0.here hx rfl (hb hby d4_39) rfl (l' := #[.val (.long q1), .second, .val (.int p2), .val (.long (S2 q1)), .second]) rfl k) ?_
      show Own.Fin p e below (s₁.setTop (mkF m 40 #[.val (.long q1), .second, .val (.int p2), .val (.long (S2 q1)), .second] [])) _
      refine Own.go (fun t k => XS.iloadN X0.here hx rfl (hb hby d4_40) rfl k) ?_
      show Own.Fin p e below (s₁.setTop (mkF m 41 #[.val (.long q1), .second, .val (.int p2), .val (.long (S2 q1)), .second] [(.int p2)])) _
      refine Own.go (fun t k => XS.iconst X0.here hx rfl (hb hby d4_41) k) ?_
      show Own.Fin p e below (s₁.setTop (mkF m 42 #[.val (.long q1), .second, .val (.int p2), .val (.long (S2 q1)), .second] [(.int (4 : Int32)), (.int p2)])) _
      by_cases hc42_6 : (4 : Int32) < p2
      · skip
        refine Own.go (fun t k => XS.icmpYes X0.here hx rfl (pc0 := 42) (pc' := 59) rfl (hb hby d4_42) rfl (tlt hc42_6).2.2.1 (by decide) (by decide) k) ?_
        show Own.Fin p e below (s₁.setTop (mkF m 59 #[.val (.long q1), .second, .val (.int p2), .val (.long (S2 q1)), .second] [])) _
        refine Own.go (fun t k => XS.lloadN X0.here hx rfl (hb hby d4_59) rfl k) ?_
        show Own.Fin p e below (s₁.setTop (mkF m 60 #[.val (.long q1), .second, .val (.int p2), .val (.long (S2 q1)), .second] [(.long (S2 q1))])) _
        refine Own.go (fun t k => X0.ldc2Long hx hown (mvT hZ (hw _ (List.mem_of_getElem? (i := 29) rfl))) (g := (mkF m 60 #[.val (.long q1), .second, .val (.int p2), .val (.long (S2 q1)), .second] [(.long (S2 q1))])) rfl (hb hby d4_60) _ k) ?_
        show Own.Fin p e below (s₁.setTop (mkF m 63 #[.val (.long q1), .second, .val (.int p2), .val (.long (S2 q1)), .second] [(.long (71777214294589695 : Int64)), (.long (S2 q1))])) _
        refine Own.go (fun t k => XS.land X0.here hx rfl (hb hby d4_63) rfl k) ?_
        show Own.Fin p e below (s₁.setTop (mkF m 64 #[.val (.long q1), .second, .val (.int p2), .val (.long (S2 q1)), .second] [(.long ((S2 q1) &&& (71777214294589695 : Int64)))])) _
        refine Own.go (fun t k => XS.lloadN X0.here hx rfl (hb hby d4_64) rfl k) ?_
        show Own.Fin p e below (s₁.setTop (mkF m 65 #[.val (.long q1), .second, .val (.int p2), .val (.long (S2 q1)), .second] [(.long (S2 q1)), (.long ((S2 q1) &&& (71777214294589695 : Int64)))])) _
        refine Own.go (fun t k => XS.bipush X0.here hx rfl (hb hby d4_65) k) ?_
        show Own.Fin p e below (s₁.setTop (mkF m 67 #[.val (.long q1), .second, .val (.int p2), .val (.long (S2 q1)), .second] [(.int (8 : Int32)), (.long (S2 q1)), (.long ((S2 q1) &&& (71777214294589695 : Int64)))])) _
        refine Own.go (fun t k => XS.lushr X0.here hx rfl (hb hby d4_67) rfl k) ?_
        show Own.Fin p e below (s₁.setTop (mkF m 68 #[.val (.long q1), .second, .val (.int p2), .val (.long (S2 q1)), .second] [(.long ((((S2 q1)).toUInt64 >>> ((8 : Int32) &&& 0x3f).toInt64.toUInt64).toInt64)), (.long ((S2 q1) &&& (71777214294589695 : Int64)))])) _
        refine Own.go (fun t k => X0.ldc2Long hx hown (mvT hZ (hw _ (List.mem_of_getElem? (i := 29) rfl))) (g := (mkF m 68 #[.val (.long q1), .second, .val (.int p2), .val (.long (S2 q1)), .second] [(.long ((((S2 q1)).toUInt64 >>> ((8 : Int32) &&& 0x3f).toInt64.toUInt64).toInt64)), (.long ((S2 q1) &&& (71777214294589695 : Int64)))])) rfl (hb hby d4_68) _ k) ?_
        show Own.Fin p e below (s₁.setTop (mkF m 71 #[.val (.long q1), .second, .val (.int p2), .val (.long (S2 q1)), .second] [(.long (71777214294589695 : Int64)), (.long ((((S2 q1)).toUInt64 >>> ((8 : Int32) &&& 0x3f).toInt64.toUInt64).toInt64)), (.long ((S2 q1) &&& (71777214294589695 : Int64)))])) _
        refine Own.go (fun t k => XS.land X0.here hx rfl (hb hby d4_71) rfl k) ?_
        show Own.Fin p e below (s₁.setTop (mkF m 72 #[.val (.long q1), .second, .val (.int p2), .val (.long (S2 q1)), .second] [(.long (((((S2 q1)).toUInt64 >>> ((8 : Int32) &&& 0x3f).toInt64.toUInt64).toInt64) &&& (71777214294589695 : Int64))), (.long ((S2 q1) &&& (71777214294589695 : Int64)))])) _
        refine Own.go (fun t k => XS.ladd X0.here hx rfl (hb hby d4_72) rfl k) ?_
        show Own.Fin p e below (s₁.setTop (mkF m 73 #[.val (.long q1), .second, .val (.int p2), .val (.long (S2 q1)), .second] [(.long (((S2 q1) &&& (71777214294589695 : Int64)) + (((((S2 q1)).toUInt64 >>> ((8 : Int32) &&& 0x3f).toInt64.toUInt64).toInt64) &&& (71777214294589695 : Int64))))])) _
        show Own.Fin p e below (s₁.setTop (mkF m 73 #[.val (.long q1), .second, .val (.int p2), .val (.long (S2 q1)), .second] [(.long (S8 (S2 q1)))])) _
        refine Own.go (fun t k => XS.lstoreN X0.here hx rfl (hb hby d4_73) rfl (l' := #[.val (.long q1), .second, .val (.int p2), .val (.long (S8 (S2 q1))), .second]) rfl k) ?_
        show Own.Fin p e below (s₁.setTop (mkF m 74 #[.val (.long q1), .second, .val (.int p2), .val (.long (S8 (S2 q1))), .second] [])) _
        refine Own.go (fun t k => XS.lloadN X0.here hx rfl (hb hby d4_74) rfl k) ?_
        show Own.Fin p e below (s₁.setTop (mkF m 75 #[.val (.long q1), .second, .val (.int p2), .val (.long (S8 (S2 q1))), .second] [(.long (S8 (S2 q1)))])) _
        refine Own.go (fun t k => X0.ldc2Long hx hown (mvT hZ (hw _ (List.mem_of_getElem? (i := 30) rfl))) (g := (mkF m 75 #[.val (.long q1), .second, .val (.int p2), .val (.long (S8 (S2 q1))), .second] [(.long (S8 (S2 q1)))])) rfl (hb hby d4_75) _ k) ?_
        show Own.Fin p e below (s₁.setTop (mkF m 78 #[.val (.long q1), .second, .val (.int p2), .val (.long (S8 (S2 q1))), .second] [(.long (281470681808895 : Int64)), (.long (S8 (S2 q1)))])) _
        refine Own.go (fun t k => XS.land X0.here hx rfl (hb hby d4_78) rfl k) ?_
        show Own.Fin p e below (s₁.setTop (mkF m 79 #[.val (.long q1), .second, .val (.int p2), .val (.long (S8 (S2 q1))), .second] [(.long ((S8 (S2 q1)) &&& (281470681808895 : Int64)))])) _
        refine Own.go (fun t k => XS.lloadN X0.here hx rfl (hb hby d4_79) rfl k) ?_
        show Own.Fin p e below (s₁.setTop (mkF m 80 #[.val (.long q1), .second, .val (.int p2), .val (.long (S8 (S2 q1))), .second] [(.long (S8 (S2 q1))), (.long ((S8 (S2 q1)) &&& (281470681808895 : Int64)))])) _
        refine Own.go (fun t k => XS.bipush X0.here hx rfl (hb hby d4_80) k) ?_
        show Own.Fin p e below (s₁.setTop (mkF m 82 #[.val (.long q1), .second, .val (.int p2), .val (.long (S8 (S2 q1))), .second] [(.int (16 : Int32)), (.long (S8 (S2 q1))), (.long ((S8 (S2 q1)) &&& (281470681808895 : Int64)))])) _
        refine Own.go (fun t k => XS.lushr X0.here hx rfl (hb hby d4_82) rfl k) ?_
        show Own.Fin p e below (s₁.setTop (mkF m 83 #[.val (.long q1), .second, .val (.int p2), .val (.long (S8 (S2 q1))), .second] [(.long ((((S8 (S2 q1))).toUInt64 >>> ((16 : Int32) &&& 0x3f).toInt64.toUInt64).toInt64)), (.long ((S8 (S2 q1)) &&& (281470681808895 : Int64)))])) _
        refine Own.go (fun t k => X0.ldc2Long hx hown (mvT hZ (hw _ (List.mem_of_getElem? (i := 30) rfl))) (g := (mkF m 83 #[.val (.long q1), .second, .val (.int p2), .val (.long (S8 (S2 q1))), .second] [(.long ((((S8 (S2 q1))).toUInt64 >>> ((16 : Int32) &&& 0x3f).toInt64.toUInt64).toInt64)), (.long ((S8 (S2 q1)) &&& (281470681808895 : Int64)))])) rfl (hb hby d4_83) _ k) ?_
        show Own.Fin p e below (s₁.setTop (mkF m 86 #[.val (.long q1), .second, .val (.int p2), .val (.long (S8 (S2 q1))), .second] [(.long (281470681808895 : Int64)), (.long ((((S8 (S2 q1))).toUInt64 >>> ((16 : Int32) &&& 0x3f).toInt64.toUInt64).toInt64)), (.long ((S8 (S2 q1)) &&& (281470681808895 : Int64)))])) _
        refine Own.go (fun t k => XS.land X0.here hx rfl (hb hby d4_86) rfl k) ?_
        show Own.Fin p e below (s₁.setTop (mkF m 87 #[.val (.long q1), .second, .val (.int p2), .val (.long (S8 (S2 q1))), .second] [(.long (((((S8 (S2 q1))).toUInt64 >>> ((16 : Int32) &&& 0x3f).toInt64.toUInt64).toInt64) &&& (281470681808895 : Int64))), (.long ((S8 (S2 q1)) &&& (281470681808895 : Int64)))])) _
        refine Own.go (fun t k => XS.ladd X0.here hx rfl (hb hby d4_87) rfl k) ?_
        show Own.Fin p e below (s₁.setTop (mkF m 88 #[.val (.long q1), .second, .val (.int p2), .val (.long (S8 (S2 q1))), .second] [(.long (((S8 (S2 q1)) &&& (281470681808895 : Int64)) + (((((S8 (S2 q1))).toUInt64 >>> ((16 : Int32) &&& 0x3f).toInt64.toUInt64).toInt64) &&& (281470681808895 : Int64))))])) _
        show Own.Fin p e below (s₁.setTop (mkF m 88 #[.val (.long q1), .second, .val (.int p2), .val (.long (S8 (S2 q1))), .second] [(.long (S16 (S8 (S2 q1))))])) _
        refine Own.go (fun t k => XS.lstoreN X0.here hx rfl (hb hby d4_88) rfl (l' := #[.val (.long q1), .second, .val (.int p2), .val (.long (S16 (S8 (S2 q1)))), .second]) rfl k) ?_
        show Own.Fin p e below (s₁.setTop (mkF m 89 #[.val (.long q1), .second, .val (.int p2), .val (.long (S16 (S8 (S2 q1)))), .second] [])) _
        refine Own.go (fun t k => XS.lloadN X0.here hx rfl (hb hby d4_89) rfl k) ?_
        show Own.Fin p e below (s₁.setTop (mkF m 90 #[.val (.long q1), .second, .val (.int p2), .val (.long (S16 (S8 (S2 q1)))), .second] [(.long (S16 (S8 (S2 q1))))])) _
        refine Own.go (fun t k => X0.ldc2Long hx hown (mvT hZ (hw _ (List.mem_of_getElem? (i := 31) rfl))) (g := (mkF m 90 #[.val (.long q1), .second, .val (.int p2), .val (.long (S16 (S8 (S2 q1)))), .second] [(.long (S16 (S8 (S2 q1))))])) rfl (hb hby d4_90) _ k) ?_
        show Own.Fin p e below (s₁.setTop (mkF m 93 #[.val (.long q1), .second, .val (.int p2), .val (.long (S16 (S8 (S2 q1)))), .second] [(.long (4294967295 : Int64)), (.long (S16 (S8 (S2 q1))))])) _
        refine Own.go (fun t k => XS.land X0.here hx rfl (hb hby d4_93) rfl k) ?_
        show Own.Fin p e below (s₁.setTop (mkF m 94 #[.val (.long q1), .second, .val (.int p2), .val (.long (S16 (S8 (S2 q1)))), .second] [(.long ((S16 (S8 (S2 q1))) &&& (4294967295 : Int64)))])) _
        refine Own.go (fun t k => XS.lloadN X0.here hx rfl (hb hby d4_94) rfl k) ?_
        show Own.Fin p e below (s₁.setTop (mkF m 95 #[.val (.long q1), .second, .val (.int p2), .val (.long (S16 (S8 (S2 q1)))), .second] [(.long (S16 (S8 (S2 q1)))), (.long ((S16 (S8 (S2 q1))) &&& (4294967295 : Int64)))])) _
        refine Own.go (fun t k => XS.bipush X0.here hx rfl (hb hby d4_95) k) ?_
        show Own.Fin p e below (s₁.setTop (mkF m 97 #[.val (.long q1), .second, .val (.int p2), .val (.long (S16 (S8 (S2 q1)))), .second] [(.int (32 : Int32)), (.long (S16 (S8 (S2 q1)))), (.long ((S16 (S8 (S2 q1))) &&& (4294967295 : Int64)))])) _
        refine Own.go (fun t k => XS.lushr X0.here hx rfl (hb hby d4_97) rfl k) ?_
        show Own.Fin p e below (s₁.setTop (mkF m 98 #[.val (.long q1), .second, .val (.int p2), .val (.long (S16 (S8 (S2 q1)))), .second] [(.long ((((S16 (S8 (S2 q1)))).toUInt64 >>> ((32 : Int32) &&& 0x3f).toInt64.toUInt64).toInt64)), (.long ((S16 (S8 (S2 q1))) &&& (4294967295 : Int64)))])) _
        refine Own.go (fun t k => XS.ladd X0.here hx rfl (hb hby d4_98) rfl k) ?_
        show Own.Fin p e below (s₁.setTop (mkF m 99 #[.val (.long q1), .second, .val (.int p2), .val (.long (S16 (S8 (S2 q1)))), .second] [(.long (((S16 (S8 (S2 q1))) &&& (4294967295 : Int64)) + ((((S16 (S8 (S2 q1)))).toUInt64 >>> ((32 : Int32) &&& 0x3f).toInt64.toUInt64).toInt64)))])) _
        show Own.Fin p e below (s₁.setTop (mkF m 99 #[.val (.long q1), .second, .val (.int p2), .val (.long (S16 (S8 (S2 q1)))), .second] [(.long (S32 (S16 (S8 (S2 q1)))))])) _
        refine Own.go (fun t k => XS.l2i X0.here hx rfl (hb hby d4_99) rfl k) ?_
        show Own.Fin p e below (s₁.setTop (mkF m 100 #[.val (.long q1), .second, .val (.int p2), .val (.long (S16 (S8 (S2 q1)))), .second] [(.int (((S32 (S16 (S8 (S2 q1))))).toInt32))])) _
        refine Own.retI X0 hx Bd.notSynchronized Bd.returns (hb hby d4_100) (by decide) (by decide) ?_
        exact ⟨by rw [show F_fs q1 p2 = (((S32 (S16 (S8 (S2 q1))))).toInt32) by rw [F_fs, if_neg hc4_0, if_neg hc23_4, if_pos hc42_6]], N0, e0⟩
      · skip
        refine Own.go (fun t k => XS.icmpNo X0.here hx rfl (hb hby d4_42) rfl (flt hc42_6).2.2.1 k) ?_
        show Own.Fin p e below (s₁.setTop (mkF m 45 #[.val (.long q1), .second, .val (.int p2), .val (.long (S2 q1)), .second] [])) _
        refine Own.go (fun t k => XS.lloadN X0.here hx rfl (hb hby d4_45) rfl k) ?_
        show Own.Fin p e below (s₁.setTop (mkF m 46 #[.val (.long q1), .second, .val (.int p2), .val (.long (S2 q1)), .second] [(.long (S2 q1))])) _
        refine Own.go (fun t k => X0.ldc2Long hx hown (mvT hZ (hw _ (List.mem_of_getElem? (i := 39) rfl))) (g := (mkF m 46 #[.val (.long q1), .second, .val (.int p2), .val (.long (S2 q1)), .second] [(.long (S2 q1))])) rfl (hb hby d4_46) _ k) ?_
        show Own.Fin p e below (s₁.setTop (mkF m 49 #[.val (.long q1), .second, .val (.int p2), .val (.long (S2 q1)), .second] [(.long (1085102592571150095 : Int64)), (.long (S2 q1))])) _
        refine Own.go (fun t k => XS.land X0.here hx rfl (hb hby d4_49) rfl k) ?_
        show Own.Fin p e below (s₁.setTop (mkF m 50 #[.val (.long q1), .second, .val (.int p2), .val (.long (S2 q1)), .second] [(.long ((S2 q1) &&& (1085102592571150095 : Int64)))])) _
        refine Own.go (fun t k => XS.lloadN X0.here hx rfl (hb hby d4_50) rfl k) ?_
        show Own.Fin p e below (s₁.setTop (mkF m 51 #[.val (.long q1), .second, .val (.int p2), .val (.long (S2 q1)), .second] [(.long (S2 q1)), (.long ((S2 q1) &&& (1085102592571150095 : Int64)))])) _
        refine Own.go (fun t k => XS.iconst X0.here hx rfl (hb hby d4_51) k) ?_
        show Own.Fin p e below (s₁.setTop (mkF m 52 #[.val (.long q1), .second, .val (.int p2), .val (.long (S2 q1)), .second] [(.int (4 : Int32)), (.long (S2 q1)), (.long ((S2 q1) &&& (1085102592571150095 : Int64)))])) _
        refine Own.go (fun t k => XS.lushr X0.here hx rfl (hb hby d4_52) rfl k) ?_
        show Own.Fin p e below (s₁.setTop (mkF m 53 #[.val (.long q1), .second, .val (.int p2), .val (.long (S2 q1)), .second] [(.long ((((S2 q1)).toUInt64 >>> ((4 : Int32) &&& 0x3f).toInt64.toUInt64).toInt64)), (.long ((S2 q1) &&& (1085102592571150095 : Int64)))])) _
        refine Own.go (fun t k => X0.ldc2Long hx hown (mvT hZ (hw _ (List.mem_of_getElem? (i := 39) rfl))) (g := (mkF m 53 #[.val (.long q1), .second, .val (.int p2), .val (.long (S2 q1)), .second] [(.long ((((S2 q1)).toUInt64 >>> ((4 : Int32) &&& 0x3f).toInt64.toUInt64).toInt64)), (.long ((S2 q1) &&& (1085102592571150095 : Int64)))])) rfl (hb hby d4_53) _ k) ?_
        show Own.Fin p e below (s₁.setTop (mkF m 56 #[.val (.long q1), .second, .val (.int p2), .val (.long (S2 q1)), .second] [(.long (1085102592571150095 : Int64)), (.long ((((S2 q1)).toUInt64 >>> ((4 : Int32) &&& 0x3f).toInt64.toUInt64).toInt64)), (.long ((S2 q1) &&& (1085102592571150095 : Int64)))])) _
        refine Own.go (fun t k => XS.land X0.here hx rfl (hb hby d4_56) rfl k) ?_
        show Own.Fin p e below (s₁.setTop (mkF m 57 #[.val (.long q1), .second, .val (.int p2), .val (.long (S2 q1)), .second] [(.long (((((S2 q1)).toUInt64 >>> ((4 : Int32) &&& 0x3f).toInt64.toUInt64).toInt64) &&& (1085102592571150095 : Int64))), (.long ((S2 q1) &&& (1085102592571150095 : Int64)))])) _
        refine Own.go (fun t k => XS.ladd X0.here hx rfl (hb hby d4_57) rfl k) ?_
        show Own.Fin p e below (s₁.setTop (mkF m 58 #[.val (.long q1), .second, .val (.int p2), .val (.long (S2 q1)), .second] [(.long (((S2 q1) &&& (1085102592571150095 : Int64)) + (((((S2 q1)).toUInt64 >>> ((4 : Int32) &&& 0x3f).toInt64.toUInt64).toInt64) &&& (1085102592571150095 : Int64))))])) _
        show Own.Fin p e below (s₁.setTop (mkF m 58 #[.val (.long q1), .second, .val (.int p2), .val (.long (S2 q1)), .second] [(.long (S4 (S2 q1)))])) _
        refine Own.go (fun t k => XS.lstoreN X0.here hx rfl (hb hby d4_58) rfl (l' := #[.val (.long q1), .second, .val (.int p2), .val (.long (S4 (S2 q1))), .second]) rfl k) ?_
        show Own.Fin p e below (s₁.setTop (mkF m 59 #[.val (.long q1), .second, .val (.int p2), .val (.long (S4 (S2 q1))), .second] [])) _
        refine Own.go (fun t k => XS.lloadN X0.here hx rfl (hb hby d4_59) rfl k) ?_
        show Own.Fin p e below (s₁.setTop (mkF m 60 #[.val (.long q1), .second, .val (.int p2), .val (.long (S4 (S2 q1))), .second] [(.long (S4 (S2 q1)))])) _
        refine Own.go (fun t k => X0.ldc2Long hx hown (mvT hZ (hw _ (List.mem_of_getElem? (i := 29) rfl))) (g := (mkF m 60 #[.val (.long q1), .second, .val (.int p2), .val (.long (S4 (S2 q1))), .second] [(.long (S4 (S2 q1)))])) rfl (hb hby d4_60) _ k) ?_
        show Own.Fin p e below (s₁.setTop (mkF m 63 #[.val (.long q1), .second, .val (.int p2), .val (.long (S4 (S2 q1))), .second] [(.long (71777214294589695 : Int64)), (.long (S4 (S2 q1)))])) _
        refine Own.go (fun t k => XS.land X0.here hx rfl (hb hby d4_63) rfl k) ?_
        show Own.Fin p e below (s₁.setTop (mkF m 64 #[.val (.long q1), .second, .val (.int p2), .val (.long (S4 (S2 q1))), .second] [(.long ((S4 (S2 q1)) &&& (71777214294589695 : Int64)))])) _
        refine Own.go (fun t k => XS.lloadN X0.here hx rfl (hb hby d4_64) rfl k) ?_
        show Own.Fin p e below (s₁.setTop (mkF m 65 #[.val (.long q1), .second, .val (.int p2), .val (.long (S4 (S2 q1))), .second] [(.long (S4 (S2 q1))), (.long ((S4 (S2 q1)) &&& (71777214294589695 : Int64)))])) _
        refine Own.go (fun t k => XS.bipush X0.here hx rfl (hb hby d4_65) k) ?_
        show Own.Fin p e below (s₁.setTop (mkF m 67 #[.val (.long q1), .second, .val (.int p2), .val (.long (S4 (S2 q1))), .second] [(.int (8 : Int32)), (.long (S4 (S2 q1))), (.long ((S4 (S2 q1)) &&& (71777214294589695 : Int64)))])) _
        refine Own.go (fun t k => XS.lushr X0.here hx rfl (hb hby d4_67) rfl k) ?_
        show Own.Fin p e below (s₁.setTop (mkF m 68 #[.val (.long q1), .second, .val (.int p2), .val (.long (S4 (S2 q1))), .second] [(.long ((((S4 (S2 q1))).toUInt64 >>> ((8 : Int32) &&& 0x3f).toInt64.toUInt64).toInt64)), (.long ((S4 (S2 q1)) &&& (71777214294589695 : Int64)))])) _
        refine Own.go (fun t k => X0.ldc2Long hx hown (mvT hZ (hw _ (List.mem_of_getElem? (i := 29) rfl))) (g := (mkF m 68 #[.val (.long q1), .second, .val (.int p2), .val (.long (S4 (S2 q1))), .second] [(.long ((((S4 (S2 q1))).toUInt64 >>> ((8 : Int32) &&& 0x3f).toInt64.toUInt64).toInt64)), (.long ((S4 (S2 q1)) &&& (71777214294589695 : Int64)))])) rfl (hb hby d4_68) _ k) ?_
        show Own.Fin p e below (s₁.setTop (mkF m 71 #[.val (.long q1), .second, .val (.int p2), .val (.long (S4 (S2 q1))), .second] [(.long (71777214294589695 : Int64)), (.long ((((S4 (S2 q1))).toUInt64 >>> ((8 : Int32) &&& 0x3f).toInt64.toUInt64).toInt64)), (.long ((S4 (S2 q1)) &&& (71777214294589695 : Int64)))])) _
        refine Own.go (fun t k => XS.land X0.here hx rfl (hb hby d4_71) rfl k) ?_
        show Own.Fin p e below (s₁.setTop (mkF m 72 #[.val (.long q1), .second, .val (.int p2), .val (.long (S4 (S2 q1))), .second] [(.long (((((S4 (S2 q1))).toUInt64 >>> ((8 : Int32) &&& 0x3f).toInt64.toUInt64).toInt64) &&& (71777214294589695 : Int64))), (.long ((S4 (S2 q1)) &&& (71777214294589695 : Int64)))])) _
        refine Own.go (fun t k => XS.ladd X0.here hx rfl (hb hby d4_72) rfl k) ?_
        show Own.Fin p e below (s₁.setTop (mkF m 73 #[.val (.long q1), .second, .val (.int p2), .val (.long (S4 (S2 q1))), .second] [(.long (((S4 (S2 q1)) &&& (71777214294589695 : Int64)) + (((((S4 (S2 q1))).toUInt64 >>> ((8 : Int32) &&& 0x3f).toInt64.toUInt64).toInt64) &&& (71777214294589695 : Int64))))])) _
        show Own.Fin p e below (s₁.setTop (mkF m 73 #[.val (.long q1), .second, .val (.int p2), .val (.long (S4 (S2 q1))), .second] [(.long (S8 (S4 (S2 q1))))])) _
        refine Own.go (fun t k => XS.lstoreN X0.here hx rfl (hb hby d4_73) rfl (l' := #[.val (.long q1), .second, .val (.int p2), .val (.long (S8 (S4 (S2 q1)))), .second]) rfl k) ?_
        show Own.Fin p e below (s₁.setTop (mkF m 74 #[.val (.long q1), .second, .val (.int p2), .val (.long (S8 (S4 (S2 q1)))), .second] [])) _
        refine Own.go (fun t k => XS.lloadN X0.here hx rfl (hb hby d4_74) rfl k) ?_
        show Own.Fin p e below (s₁.setTop (mkF m 75 #[.val (.long q1), .second, .val (.int p2), .val (.long (S8 (S4 (S2 q1)))), .second] [(.long (S8 (S4 (S2 q1))))])) _
        refine Own.go (fun t k => X0.ldc2Long hx hown (mvT hZ (hw _ (List.mem_of_getElem? (i := 30) rfl))) (g := (mkF m 75 #[.val (.long q1), .second, .val (.int p2), .val (.long (S8 (S4 (S2 q1)))), .second] [(.long (S8 (S4 (S2 q1))))])) rfl (hb hby d4_75) _ k) ?_
        show Own.Fin p e below (s₁.setTop (mkF m 78 #[.val (.long q1), .second, .val (.int p2), .val (.long (S8 (S4 (S2 q1)))), .second] [(.long (281470681808895 : Int64)), (.long (S8 (S4 (S2 q1))))])) _
        refine Own.go (fun t k => XS.land X0.here hx rfl (hb hby d4_78) rfl k) ?_
        show Own.Fin p e below (s₁.setTop (mkF m 79 #[.val (.long q1), .second, .val (.int p2), .val (.long (S8 (S4 (S2 q1)))), .second] [(.long ((S8 (S4 (S2 q1))) &&& (281470681808895 : Int64)))])) _
        refine Own.go (fun t k => XS.lloadN X0.here hx rfl (hb hby d4_79) rfl k) ?_
        show Own.Fin p e below (s₁.setTop (mkF m 80 #[.val (.long q1), .second, .val (.int p2), .val (.long (S8 (S4 (S2 q1)))), .second] [(.long (S8 (S4 (S2 q1)))), (.long ((S8 (S4 (S2 q1))) &&& (281470681808895 : Int64)))])) _
        refine Own.go (fun t k => XS.bipush X0.here hx rfl (hb hby d4_80) k) ?_
        show Own.Fin p e below (s₁.setTop (mkF m 82 #[.val (.long q1), .second, .val (.int p2), .val (.long (S8 (S4 (S2 q1)))), .second] [(.int (16 : Int32)), (.long (S8 (S4 (S2 q1)))), (.long ((S8 (S4 (S2 q1))) &&& (281470681808895 : Int64)))])) _
        refine Own.go (fun t k => XS.lushr X0.here hx rfl (hb hby d4_82) rfl k) ?_
        show Own.Fin p e below (s₁.setTop (mkF m 83 #[.val (.long q1), .second, .val (.int p2), .val (.long (S8 (S4 (S2 q1)))), .second] [(.long ((((S8 (S4 (S2 q1)))).toUInt64 >>> ((16 : Int32) &&& 0x3f).toInt64.toUInt64).toInt64)), (.long ((S8 (S4 (S2 q1))) &&& (281470681808895 : Int64)))])) _
        refine Own.go (fun t k => X0.ldc2Long hx hown (mvT hZ (hw _ (List.mem_of_getElem? (i := 30) rfl))) (g := (mkF m 83 #[.val (.long q1), .second, .val (.int p2), .val (.long (S8 (S4 (S2 q1)))), .second] [(.long ((((S8 (S4 (S2 q1)))).toUInt64 >>> ((16 : Int32) &&& 0x3f).toInt64.toUInt64).toInt64)), (.long ((S8 (S4 (S2 q1))) &&& (281470681808895 : Int64)))])) rfl (hb hby d4_83) _ k) ?_
        show Own.Fin p e below (s₁.setTop (mkF m 86 #[.val (.long q1), .second, .val (.int p2), .val (.long (S8 (S4 (S2 q1)))), .second] [(.long (281470681808895 : Int64)), (.long ((((S8 (S4 (S2 q1)))).toUInt64 >>> ((16 : Int32) &&& 0x3f).toInt64.toUInt64).toInt64)), (.long ((S8 (S4 (S2 q1))) &&& (281470681808895 : Int64)))])) _
        refine Own.go (fun t k => XS.land X0.here hx rfl (hb hby d4_86) rfl k) ?_
        show Own.Fin p e below (s₁.setTop (mkF m 87 #[.val (.long q1), .second, .val (.int p2), .val (.long (S8 (S4 (S2 q1)))), .second] [(.long (((((S8 (S4 (S2 q1)))).toUInt64 >>> ((16 : Int32) &&& 0x3f).toInt64.toUInt64).toInt64) &&& (281470681808895 : Int64))), (.long ((S8 (S4 (S2 q1))) &&& (281470681808895 : Int64)))])) _
        refine Own.go (fun t k => XS.ladd X0.here hx rfl (hb hby d4_87) rfl k) ?_
        show Own.Fin p e below (s₁.setTop (mkF m 88 #[.val (.long q1), .second, .val (.int p2), .val (.long (S8 (S4 (S2 q1)))), .second] [(.long (((S8 (S4 (S2 q1))) &&& (281470681808895 : Int64)) + (((((S8 (S4 (S2 q1)))).toUInt64 >>> ((16 : Int32) &&& 0x3f).toInt64.toUInt64).toInt64) &&& (281470681808895 : Int64))))])) _
        show Own.Fin p e below (s₁.setTop (mkF m 88 #[.val (.long q1), .second, .val (.int p2), .val (.long (S8 (S4 (S2 q1)))), .second] [(.long (S16 (S8 (S4 (S2 q1)))))])) _
        refine Own.go (fun t k => XS.lstoreN X0.here hx rfl (hb hby d4_88) rfl (l' := #[.val (.long q1), .second, .val (.int p2), .val (.long (S16 (S8 (S4 (S2 q1))))), .second]) rfl k) ?_
        show Own.Fin p e below (s₁.setTop (mkF m 89 #[.val (.long q1), .second, .val (.int p2), .val (.long (S16 (S8 (S4 (S2 q1))))), .second] [])) _
        refine Own.go (fun t k => XS.lloadN X0.here hx rfl (hb hby d4_89) rfl k) ?_
        show Own.Fin p e below (s₁.setTop (mkF m 90 #[.val (.long q1), .second, .val (.int p2), .val (.long (S16 (S8 (S4 (S2 q1))))), .second] [(.long (S16 (S8 (S4 (S2 q1)))))])) _
        refine Own.go (fun t k => X0.ldc2Long hx hown (mvT hZ (hw _ (List.mem_of_getElem? (i := 31) rfl))) (g := (mkF m 90 #[.val (.long q1), .second, .val (.int p2), .val (.long (S16 (S8 (S4 (S2 q1))))), .second] [(.long (S16 (S8 (S4 (S2 q1)))))])) rfl (hb hby d4_90) _ k) ?_
        show Own.Fin p e below (s₁.setTop (mkF m 93 #[.val (.long q1), .second, .val (.int p2), .val (.long (S16 (S8 (S4 (S2 q1))))), .second] [(.long (4294967295 : Int64)), (.long (S16 (S8 (S4 (S2 q1)))))])) _
        refine Own.go (fun t k => XS.land X0.here hx rfl (hb hby d4_93) rfl k) ?_
        show Own.Fin p e below (s₁.setTop (mkF m 94 #[.val (.long q1), .second, .val (.int p2), .val (.long (S16 (S8 (S4 (S2 q1))))), .second] [(.long ((S16 (S8 (S4 (S2 q1)))) &&& (4294967295 : Int64)))])) _
        refine Own.go (fun t k => XS.lloadN X0.here hx rfl (hb hby d4_94) rfl k) ?_
        show Own.Fin p e below (s₁.setTop (mkF m 95 #[.val (.long q1), .second, .val (.int p2), .val (.long (S16 (S8 (S4 (S2 q1))))), .second] [(.long (S16 (S8 (S4 (S2 q1))))), (.long ((S16 (S8 (S4 (S2 q1)))) &&& (4294967295 : Int64)))])) _
        refine Own.go (fun t k => XS.bipush X0.here hx rfl (hb hby d4_95) k) ?_
        show Own.Fin p e below (s₁.setTop (mkF m 97 #[.val (.long q1), .second, .val (.int p2), .val (.long (S16 (S8 (S4 (S2 q1))))), .second] [(.int (32 : Int32)), (.long (S16 (S8 (S4 (S2 q1))))), (.long ((S16 (S8 (S4 (S2 q1)))) &&& (4294967295 : Int64)))])) _
        refine Own.go (fun t k => XS.lushr X0.here hx rfl (hb hby d4_97) rfl k) ?_
        show Own.Fin p e below (s₁.setTop (mkF m 98 #[.val (.long q1), .second, .val (.int p2), .val (.long (S16 (S8 (S4 (S2 q1))))), .second] [(.long ((((S16 (S8 (S4 (S2 q1))))).toUInt64 >>> ((32 : Int32) &&& 0x3f).toInt64.toUInt64).toInt64)), (.long ((S16 (S8 (S4 (S2 q1)))) &&& (4294967295 : Int64)))])) _
        refine Own.go (fun t k => XS.ladd X0.here hx rfl (hb hby d4_98) rfl k) ?_
        show Own.Fin p e below (s₁.setTop (mkF m 99 #[.val (.long q1), .second, .val (.int p2), .val (.long (S16 (S8 (S4 (S2 q1))))), .second] [(.long (((S16 (S8 (S4 (S2 q1)))) &&& (4294967295 : Int64)) + ((((S16 (S8 (S4 (S2 q1))))).toUInt64 >>> ((32 : Int32) &&& 0x3f).toInt64.toUInt64).toInt64)))])) _
        show Own.Fin p e below (s₁.setTop (mkF m 99 #[.val (.long q1), .second, .val (.int p2), .val (.long (S16 (S8 (S4 (S2 q1))))), .second] [(.long (S32 (S16 (S8 (S4 (S2 q1))))))])) _
        refine Own.go (fun t k => XS.l2i X0.here hx rfl (hb hby d4_99) rfl k) ?_
        show Own.Fin p e below (s₁.setTop (mkF m 100 #[.val (.long q1), .second, .val (.int p2), .val (.long (S16 (S8 (S4 (S2 q1))))), .second] [(.int (((S32 (S16 (S8 (S4 (S2 q1)))))).toInt32))])) _
        refine Own.retI X0 hx Bd.notSynchronized Bd.returns (hb hby d4_100) (by decide) (by decide) ?_
        exact ⟨by rw [show F_fs q1 p2 = (((S32 (S16 (S8 (S4 (S2 q1)))))).toInt32) by rw [F_fs, if_neg hc4_0, if_neg hc23_4, if_neg hc42_6]], N0, e0⟩
theorem d5_0 : decode method_4_code 0 = .ok (.iload 12, 2) := by decide +kernel
theorem d5_2 : decode method_4_code 2 = .ok (.iload 10, 2) := by decide +kernel
theorem d5_4 : decode method_4_code 4 = .ok (.if_icmp .ge 71, 3) := by decide +kernel
theorem d5_7 : decode method_4_code 7 = .ok (.iload 8, 2) := by decide +kernel
theorem d5_9 : decode method_4_code 9 = .ok (.iload 12, 2) := by decide +kernel
theorem d5_11 : decode method_4_code 11 = .ok (.imul, 1) := by decide +kernel
theorem d5_12 : decode method_4_code 12 = .ok (.istore 13, 2) := by decide +kernel
theorem d5_14 : decode method_4_code 14 = .ok (.iload 13, 2) := by decide +kernel
theorem d5_16 : decode method_4_code 16 = .ok (.bipush 6, 2) := by decide +kernel
theorem d5_18 : decode method_4_code 18 = .ok (.iushr, 1) := by decide +kernel
theorem d5_19 : decode method_4_code 19 = .ok (.istore 14, 2) := by decide +kernel
theorem d5_21 : decode method_4_code 21 = .ok (.iload 14, 2) := by decide +kernel
theorem d5_23 : decode method_4_code 23 = .ok (.ifCond .ne 7, 3) := by decide +kernel
theorem d5_26 : decode method_4_code 26 = .ok (.lload_n 0, 1) := by decide +kernel
theorem d5_27 : decode method_4_code 27 = .ok (.goto 26, 3) := by decide +kernel
theorem d5_30 : decode method_4_code 30 = .ok (.iload 14, 2) := by decide +kernel
theorem d5_32 : decode method_4_code 32 = .ok (.iconst 1, 1) := by decide +kernel
theorem d5_33 : decode method_4_code 33 = .ok (.if_icmp .ne 7, 3) := by decide +kernel
theorem d5_36 : decode method_4_code 36 = .ok (.lload_n 2, 1) := by decide +kernel
theorem d5_37 : decode method_4_code 37 = .ok (.goto 16, 3) := by decide +kernel
theorem d5_40 : decode method_4_code 40 = .ok (.iload 14, 2) := by decide +kernel
theorem d5_42 : decode method_4_code 42 = .ok (.iconst 2, 1) := by decide +kernel
theorem d5_43 : decode method_4_code 43 = .ok (.if_icmp .ne 8, 3) := by decide +kernel
theorem d5_46 : decode method_4_code 46 = .ok (.lload 4, 2) := by decide +kernel
theorem d5_48 : decode method_4_code 48 = .ok (.goto 5, 3) := by decide +kernel
theorem d5_51 : decode method_4_code 51 = .ok (.lload 6, 2) := by decide +kernel
theorem d5_53 : decode method_4_code 53 = .ok (.lstore 15, 2) := by decide +kernel
theorem d5_55 : decode method_4_code 55 = .ok (.lload 15, 2) := by decide +kernel
theorem d5_57 : decode method_4_code 57 = .ok (.bipush 64, 2) := by decide +kernel
theorem d5_59 : decode method_4_code 59 = .ok (.iload 13, 2) := by decide +kernel
theorem d5_61 : decode method_4_code 61 = .ok (.bipush 63, 2) := by decide +kernel
theorem d5_63 : decode method_4_code 63 = .ok (.iand, 1) := by decide +kernel
theorem d5_64 : decode method_4_code 64 = .ok (.isub, 1) := by decide +kernel
theorem d5_65 : decode method_4_code 65 = .ok (.iload 8, 2) := by decide +kernel
theorem d5_67 : decode method_4_code 67 = .ok (.isub, 1) := by decide +kernel
theorem d5_68 : decode method_4_code 68 = .ok (.lushr, 1) := by decide +kernel
theorem d5_69 : decode method_4_code 69 = .ok (.iload 9, 2) := by decide +kernel
theorem d5_71 : decode method_4_code 71 = .ok (.i2l, 1) := by decide +kernel
theorem d5_72 : decode method_4_code 72 = .ok (.land, 1) := by decide +kernel
theorem d5_73 : decode method_4_code 73 = .ok (.l2i, 1) := by decide +kernel
theorem d5_74 : decode method_4_code 74 = .ok (.ireturn, 1) := by decide +kernel
theorem d5_75 : decode method_4_code 75 = .ok (.iload 12, 2) := by decide +kernel
theorem d5_77 : decode method_4_code 77 = .ok (.iload 10, 2) := by decide +kernel
theorem d5_79 : decode method_4_code 79 = .ok (.isub, 1) := by decide +kernel
theorem d5_80 : decode method_4_code 80 = .ok (.istore 13, 2) := by decide +kernel
theorem d5_82 : decode method_4_code 82 = .ok (.iload 11, 2) := by decide +kernel
theorem d5_84 : decode method_4_code 84 = .ok (.bipush 16, 2) := by decide +kernel
theorem d5_86 : decode method_4_code 86 = .ok (.iload 8, 2) := by decide +kernel
theorem d5_88 : decode method_4_code 88 = .ok (.iload 13, 2) := by decide +kernel
theorem d5_90 : decode method_4_code 90 = .ok (.iconst 1, 1) := by decide +kernel
theorem d5_91 : decode method_4_code 91 = .ok (.iadd, 1) := by decide +kernel
theorem d5_92 : decode method_4_code 92 = .ok (.imul, 1) := by decide +kernel
theorem d5_93 : decode method_4_code 93 = .ok (.isub, 1) := by decide +kernel
theorem d5_94 : decode method_4_code 94 = .ok (.iushr, 1) := by decide +kernel
theorem d5_95 : decode method_4_code 95 = .ok (.iload 9, 2) := by decide +kernel
theorem d5_97 : decode method_4_code 97 = .ok (.iand, 1) := by decide +kernel
theorem d5_98 : decode method_4_code 98 = .ok (.ireturn, 1) := by decide +kernel
theorem pn_5 : plainName "com/example/treadle/treadle/LmOtsTypeCoefficientsPinLaw" = true := by first | (simp [plainName, overriddenIn]; done) | decide +kernel
theorem ef_5 (m : MethodId) (q1 : Int64) (q2 : Int64) (q3 : Int64) (q4 : Int64) (w_ : Int32) (mx_ : Int32) (dg_ : Int32) (ck_ : Int32) (i_ : Int32) : entryFrame m #[(.long q1), (.long q2), (.long q3), (.long q4), (.int w_), (.int mx_), (.int dg_), (.int ck_), (.int i_)] 17 = mkF m 0 #[.val (.long q1), .second, .val (.long q2), .second, .val (.long q3), .second, .val (.long q4), .second, .val (.int w_), .val (.int mx_), .val (.int dg_), .val (.int ck_), .val (.int i_), .unset, .unset, .unset, .unset] [] := by first | (simp [entryFrame, mkF, argsToLocals, Value.category]; done) | rfl
def Q5 (Z : State) (q1 : Int64) (q2 : Int64) (q3 : Int64) (q4 : Int64) (w_ : Int32) (mx_ : Int32) (dg_ : Int32) (ck_ : Int32) (i_ : Int32)  (h0 : Heap) (n0 : Nat) : Option Value → Heap → List Loc → Prop := fun v h L => v = some (.int (F_exp q1 q2 q3 q4 w_ mx_ dg_ ck_ i_)) ∧ Fr n0 L ∧ h = h0
set_option maxRecDepth 65536 in
set_option maxHeartbeats 40000000 in
theorem rm5 (l : Launch) (Z : State) (a0 : Array Value) (hw : ∀ d ∈ tables_1, d.before a0 Z = true) (ws : List Jvm.Cond) (q1 : Int64) (q2 : Int64) (q3 : Int64) (q4 : Int64) (w_ : Int32) (mx_ : Int32) (dg_ : Int32) (ck_ : Int32) (i_ : Int32)  (h0 : Heap) (n0 : Nat) (Z0 : n0 ≤ h0.size)  :
    MetFree l (⟨"com/example/treadle/treadle/LmOtsTypeCoefficientsPinLaw", "expected", "(JJJJIIIII)I"⟩ : MethodName) (head1 (Jvm.Cond.code (⟨"com/example/treadle/treadle/LmOtsTypeCoefficientsPinLaw", "expected", "(JJJJIIIII)I"⟩ : MethodName) method_4_code 17 (some .int) :: ws) ({ frames := 0, cells := 0, slots := 0, locals := 0 } : Room)) (fun a U => a = #[(.long q1), (.long q2), (.long q3), (.long q4), (.int w_), (.int mx_), (.int dg_), (.int ck_), (.int i_)] ∧ Z.Warmed39 U.vm ∧ U.heap = h0) (fun _ _ _ _ _ => True) (fun _ U o U' => ∃ v L, o = .returned v ∧ (Q5 Z q1 q2 q3 q4 w_ mx_ dg_ ck_ i_ h0 n0) v U'.heap L ∧ FrameEnd U o U' L ({ frames := 0, cells := 0, slots := 0, locals := 0 } : Room).cells ({ frames := 0, cells := 0, slots := 0, locals := 0 } : Room).slots) := by
  refine MetFree.of_bodySF (plainFor_of_name pn_5) hisR ?_
  intro p e s m args below meth c s₁ Bd hml0 hP hK
  obtain ⟨rfl, hZ, hh⟩ := hP
  have hx := Bd.exec
  have hby := Bd.bytes
  have hml : c.maxLocals = 17 := hml0
  have hown : s.vm.findClass "com/example/treadle/treadle/LmOtsTypeCoefficientsPinLaw" = some m.cls := findClass_of_methodNamed Bd.named
  have hnm := (name_of_methodNamed Bd.named Bd.method).1
  have X0 : Stand p l e ({ frames := 0, cells := 0, slots := 0, locals := 0 } : Room) s m #[(.long q1), (.long q2), (.long q3), (.long q4), (.int w_), (.int mx_), (.int dg_), (.int ck_), (.int i_)] below meth c s₁ [] 0 0 := Stand.of_body Bd
  have e0 : s₁.heap = h0 := by rw [← hh, Bd.state]; rfl
  have N0 := Fr.nil n0
  show Own.Fin p e below _ (Own.Post s (Q5 Z q1 q2 q3 q4 w_ mx_ dg_ ck_ i_ h0 n0) ({ frames := 0, cells := 0, slots := 0, locals := 0 } : Room).cells ({ frames := 0, cells := 0, slots := 0, locals := 0 } : Room).slots)
  refine Own.start (ef_5 m q1 q2 q3 q4 w_ mx_ dg_ ck_ i_) ?_
  show Own.Fin p e below (s₁.setTop (mkF m 0 #[.val (.long q1), .second, .val (.long q2), .second, .val (.long q3), .second, .val (.long q4), .second, .val (.int w_), .val (.int mx_), .val (.int dg_), .val (.int ck_), .val (.int i_), .unset, .unset, .unset, .unset] [])) _
  refine Own.go (fun t k => XS.iload X0.here hx rfl (hb hby d5_0) rfl k) ?_
  show Own.Fin p e below (s₁.setTop (mkF m 2 #[.val (.long q1), .second, .val (.long q2), .second, .val (.long q3), .second, .val (.long q4), .second, .val (.int w_), .val (.int mx_), .val (.int dg_), .val (.int ck_), .val (.int i_), .unset, .unset, .unset, .unset] [(.int i_)])) _
  refine Own.go (fun t k => XS.iload X0.here hx rfl (hb hby d5_2) rfl k) ?_
  show Own.Fin p e below (s₁.setTop (mkF m 4 #[.val (.long q1), .second, .val (.long q2), .second, .val (.long q3), .second, .val (.long q4), .second, .val (.int w_), .val (.int mx_), .val (.int dg_), .val (.int ck_), .val (.int i_), .unset, .unset, .unset, .unset] [(.int dg_), (.int i_)])) _
  by_cases hc4_0 : i_ < dg_
  · skip
    refine Own.go (fun t k => XS.icmpNo X0.here hx rfl (hb hby d5_4) rfl (tlt hc4_0).2.1 k) ?_
    show Own.Fin p e below (s₁.setTop (mkF m 7 #[.val (.long q1), .second, .val (.long q2), .second, .val (.long q3), .second, .val (.long q4), .second, .val (.int w_), .val (.int mx_), .val (.int dg_), .val (.int ck_), .val (.int i_), .unset, .unset, .unset, .unset] [])) _
    refine Own.go (fun t k => XS.iload X0.here hx rfl (hb hby d5_7) rfl k) ?_
    show Own.Fin p e below (s₁.setTop (mkF m 9 #[.val (.long q1), .second, .val (.long q2), .second, .val (.long q3), .second, .val (.long q4), .second, .val (.int w_), .val (.int mx_), .val (.int dg_), .val (.int ck_), .val (.int i_), .unset, .unset, .unset, .unset] [(.int w_)])) _
    refine Own.go (fun t k => XS.iload X0.here hx rfl (hb hby d5_9) rfl k) ?_
    show Own.Fin p e below (s₁.setTop (mkF m 11 #[.val (.long q1), .second, .val (.long q2), .second, .val (.long q3), .second, .val (.long q4), .second, .val (.int w_), .val (.int mx_), .val (.int dg_), .val (.int ck_), .val (.int i_), .unset, .unset, .unset, .unset] [(.int i_), (.int w_)])) _
    refine Own.go (fun t k => XS.imul X0.here hx rfl (hb hby d5_11) rfl k) ?_
    show Own.Fin p e below (s₁.setTop (mkF m 12 #[.val (.long q1), .second, .val (.long q2), .second, .val (.long q3), .second, .val (.long q4), .second, .val (.int w_), .val (.int mx_), .val (.int dg_), .val (.int ck_), .val (.int i_), .unset, .unset, .unset, .unset] [(.int (w_ * i_))])) _
    refine Own.go (fun t k => XS.istore X0.here hx rfl (hb hby d5_12) rfl (l' := #[.val (.long q1), .second, .val (.long q2), .second, .val (.long q3), .second, .val (.long q4), .second, .val (.int w_), .val (.int mx_), .val (.int dg_), .val (.int ck_), .val (.int i_), .val (.int (w_ * i_)), .unset, .unset, .unset]) rfl k) ?_
    show Own.Fin p e below (s₁.setTop (mkF m 14 #[.val (.long q1), .second, .val (.long q2), .second, .val (.long q3), .second, .val (.long q4), .second, .val (.int w_), .val (.int mx_), .val (.int dg_), .val (.int ck_), .val (.int i_), .val (.int (w_ * i_)), .unset, .unset, .unset] [])) _
    refine Own.go (fun t k => XS.iload X0.here hx rfl (hb hby d5_14) rfl k) ?_
    show Own.Fin p e below (s₁.setTop (mkF m 16 #[.val (.long q1), .second, .val (.long q2), .second, .val (.long q3), .second, .val (.long q4), .second, .val (.int w_), .val (.int mx_), .val (.int dg_), .val (.int ck_), .val (.int i_), .val (.int (w_ * i_)), .unset, .unset, .unset] [(.int (w_ * i_))])) _
    refine Own.go (fun t k => XS.bipush X0.here hx rfl (hb hby d5_16) k) ?_
    show Own.Fin p e below (s₁.setTop (mkF m 18 #[.val (.long q1), .second, .val (.long q2), .second, .val (.long q3), .second, .val (.long q4), .second, .val (.int w_), .val (.int mx_), .val (.int dg_), .val (.int ck_), .val (.int i_), .val (.int (w_ * i_)), .unset, .unset, .unset] [(.int (6 : Int32)), (.int (w_ * i_))])) _
    refine Own.go (fun t k => XS.iushr X0.here hx rfl (hb hby d5_18) rfl k) ?_
    show Own.Fin p e below (s₁.setTop (mkF m 19 #[.val (.long q1), .second, .val (.long q2), .second, .val (.long q3), .second, .val (.long q4), .second, .val (.int w_), .val (.int mx_), .val (.int dg_), .val (.int ck_), .val (.int i_), .val (.int (w_ * i_)), .unset, .unset, .unset] [(.int ((((w_ * i_)).toUInt32 >>> ((6 : Int32) &&& 31).toUInt32).toInt32))])) _
    show Own.Fin p e below (s₁.setTop (mkF m 19 #[.val (.long q1), .second, .val (.long q2), .second, .val (.long q3), .second, .val (.long q4), .second, .val (.int w_), .val (.int mx_), .val (.int dg_), .val (.int ck_), .val (.int i_), .val (.int (w_ * i_)), .unset, .unset, .unset] [(.int (F_li (w_ * i_)))])) _
    refine Own.go (fun t k => XS.istore X0.here hx rfl (hb hby d5_19) rfl (l' := #[.val (.long q1), .second, .val (.long q2), .second, .val (.long q3), .second, .val (.long q4), .second, .val (.int w_), .val (.int mx_), .val (.int dg_), .val (.int ck_), .val (.int i_), .val (.int (w_ * i_)), .val (.int (F_li (w_ * i_))), .unset, .unset]) rfl k) ?_
    show Own.Fin p e below (s₁.setTop (mkF m 21 #[.val (.long q1), .second, .val (.long q2), .second, .val (.long q3), .second, .val (.long q4), .second, .val (.int w_), .val (.int mx_), .val (.int dg_), .val (.int ck_), .val (.int i_), .val (.int (w_ * i_)), .val (.int (F_li (w_ * i_))), .unset, .unset] [])) _
    refine Own.go (fun t k => XS.iload X0.here hx rfl (hb hby d5_21) rfl k) ?_
    show Own.Fin p e below (s₁.setTop (mkF m 23 #[.val (.long q1), .second, .val (.long q2), .second, .val (.long q3), .second, .val (.long q4), .second, .val (.int w_), .val (.int mx_), .val (.int dg_), .val (.int ck_), .val (.int i_), .val (.int (w_ * i_)), .val (.int (F_li (w_ * i_))), .unset, .unset] [(.int (F_li (w_ * i_)))])) _
    by_cases hc23_1 : (F_li (w_ * i_)) = (0 : Int32)
    · skip
      refine Own.go (fun t k => XS.ifNo X0.here hx rfl (hb hby d5_23) rfl ((if0 _ _).trans (teq hc23_1).2) k) ?_
      show Own.Fin p e below (s₁.setTop (mkF m 26 #[.val (.long q1), .second, .val (.long q2), .second, .val (.long q3), .second, .val (.long q4), .second, .val (.int w_), .val (.int mx_), .val (.int dg_), .val (.int ck_), .val (.int i_), .val (.int (w_ * i_)), .val (.int (F_li (w_ * i_))), .unset, .unset] [])) _
      refine Own.go (fun t k => XS.lloadN X0.here hx rfl (hb hby d5_26) rfl k) ?_
      show Own.Fin p e below (s₁.setTop (mkF m 27 #[.val (.long q1), .second, .val (.long q2), .second, .val (.long q3), .second, .val (.long q4), .second, .val (.int w_), .val (.int mx_), .val (.int dg_), .val (.int ck_), .val (.int i_), .val (.int (w_ * i_)), .val (.int (F_li (w_ * i_))), .unset, .unset] [(.long q1)])) _
      refine Own.go (fun t k => XS.goto X0.here hx rfl (pc0 := 27) (pc' := 53) rfl (hb hby d5_27) (by decide) (by decide) k) ?_
      show Own.Fin p e below (s₁.setTop (mkF m 53 #[.val (.long q1), .second, .val (.long q2), .second, .val (.long q3), .second, .val (.long q4), .second, .val (.int w_), .val (.int mx_), .val (.int dg_), .val (.int ck_), .val (.int i_), .val (.int (w_ * i_)), .val (.int (F_li (w_ * i_))), .unset, .unset] [(.long q1)])) _
      refine Own.go (fun t k => XS.lstore X0.here hx rfl (hb hby d5_53) rfl (l' := #[.val (.long q1), .second, .val (.long q2), .second, .val (.long q3), .second, .val (.long q4), .second, .val (.int w_), .val (.int mx_), .val (.int dg_), .val (.int ck_), .val (.int i_), .val (.int (w_ * i_)), .val (.int (F_li (w_ * i_))), .val (.long q1), .second]) rfl k) ?_
      show Own.Fin p e below (s₁.setTop (mkF m 55 #[.val (.long q1), .second, .val (.long q2), .second, .val (.long q3), .second, .val (.long q4), .second, .val (.int w_), .val (.int mx_), .val (.int dg_), .val (.int ck_), .val (.int i_), .val (.int (w_ * i_)), .val (.int (F_li (w_ * i_))), .val (.long q1), .second] [])) _
      refine Own.go (fun t k => XS.lload X0.here hx rfl (hb hby d5_55) rfl k) ?_
      show Own.Fin p e below (s₁.setTop (mkF m 57 #[.val (.long q1), .second, .val (.long q2), .second, .val (.long q3), .second, .val (.long q4), .second, .val (.int w_), .val (.int mx_), .val (.int dg_), .val (.int ck_), .val (.int i_), .val (.int (w_ * i_)), .val (.int (F_li (w_ * i_))), .val (.long q1), .second] [(.long q1)])) _
      refine Own.go (fun t k => XS.bipush X0.here hx rfl (hb hby d5_57) k) ?_
      show Own.Fin p e below (s₁.setTop (mkF m 59 #[.val (.long q1), .second, .val (.long q2), .second, .val (.long q3), .second, .val (.long q4), .second, .val (.int w_), .val (.int mx_), .val (.int dg_), .val (.int ck_), .val (.int i_), .val (.int (w_ * i_)), .val (.int (F_li (w_ * i_))), .val (.long q1), .second] [(.int (64 : Int32)), (.long q1)])) _
      refine Own.go (fun t k => XS.iload X0.here hx rfl (hb hby d5_59) rfl k) ?_
      show Own.Fin p e below (s₁.setTop (mkF m 61 #[.val (.long q1), .second, .val (.long q2), .second, .val (.long q3), .second, .val (.long q4), .second, .val (.int w_), .val (.int mx_), .val (.int dg_), .val (.int ck_), .val (.int i_), .val (.int (w_ * i_)), .val (.int (F_li (w_ * i_))), .val (.long q1), .second] [(.int (w_ * i_)), (.int (64 : Int32)), (.long q1)])) _
      refine Own.go (fun t k => XS.bipush X0.here hx rfl (hb hby d5_61) k) ?_
      show Own.Fin p e below (s₁.setTop (mkF m 63 #[.val (.long q1), .second, .val (.long q2), .second, .val (.long q3), .second, .val (.long q4), .second, .val (.int w_), .val (.int mx_), .val (.int dg_), .val (.int ck_), .val (.int i_), .val (.int (w_ * i_)), .val (.int (F_li (w_ * i_))), .val (.long q1), .second] [(.int (63 : Int32)), (.int (w_ * i_)), (.int (64 : Int32)), (.long q1)])) _
      refine Own.go (fun t k => XS.iand X0.here hx rfl (hb hby d5_63) rfl k) ?_
      show Own.Fin p e below (s₁.setTop (mkF m 64 #[.val (.long q1), .second, .val (.long q2), .second, .val (.long q3), .second, .val (.long q4), .second, .val (.int w_), .val (.int mx_), .val (.int dg_), .val (.int ck_), .val (.int i_), .val (.int (w_ * i_)), .val (.int (F_li (w_ * i_))), .val (.long q1), .second] [(.int ((w_ * i_) &&& (63 : Int32))), (.int (64 : Int32)), (.long q1)])) _
      refine Own.go (fun t k => XS.isub X0.here hx rfl (hb hby d5_64) rfl k) ?_
      show Own.Fin p e below (s₁.setTop (mkF m 65 #[.val (.long q1), .second, .val (.long q2), .second, .val (.long q3), .second, .val (.long q4), .second, .val (.int w_), .val (.int mx_), .val (.int dg_), .val (.int ck_), .val (.int i_), .val (.int (w_ * i_)), .val (.int (F_li (w_ * i_))), .val (.long q1), .second] [(.int ((64 : Int32) - ((w_ * i_) &&& (63 : Int32)))), (.long q1)])) _
      refine Own.go (fun t k => XS.iload X0.here hx rfl (hb hby d5_65) rfl k) ?_
      show Own.Fin p e below (s₁.setTop (mkF m 67 #[.val (.long q1), .second, .val (.long q2), .second, .val (.long q3), .second, .val (.long q4), .second, .val (.int w_), .val (.int mx_), .val (.int dg_), .val (.int ck_), .val (.int i_), .val (.int (w_ * i_)), .val (.int (F_li (w_ * i_))), .val (.long q1), .second] [(.int w_), (.int ((64 : Int32) - ((w_ * i_) &&& (63 : Int32)))), (.long q1)])) _
      refine Own.go (fun t k => XS.isub X0.here hx rfl (hb hby d5_67) rfl k) ?_
      show Own.Fin p e below (s₁.setTop (mkF m 68 #[.val (.long q1), .second, .val (.long q2), .second, .val (.long q3), .second, .val (.long q4), .second, .val (.int w_), .val (.int mx_), .val (.int dg_), .val (.int ck_), .val (.int i_), .val (.int (w_ * i_)), .val (.int (F_li (w_ * i_))), .val (.long q1), .second] [(.int (((64 : Int32) - ((w_ * i_) &&& (63 : Int32))) - w_)), (.long q1)])) _
      refine Own.go (fun t k => XS.lushr X0.here hx rfl (hb hby d5_68) rfl k) ?_
      show Own.Fin p e below (s₁.setTop (mkF m 69 #[.val (.long q1), .second, .val (.long q2), .second, .val (.long q3), .second, .val (.long q4), .second, .val (.int w_), .val (.int mx_), .val (.int dg_), .val (.int ck_), .val (.int i_), .val (.int (w_ * i_)), .val (.int (F_li (w_ * i_))), .val (.long q1), .second] [(.long (((q1).toUInt64 >>> ((((64 : Int32) - ((w_ * i_) &&& (63 : Int32))) - w_) &&& 0x3f).toInt64.toUInt64).toInt64))])) _
      refine Own.go (fun t k => XS.iload X0.here hx rfl (hb hby d5_69) rfl k) ?_
      show Own.Fin p e below (s₁.setTop (mkF m 71 #[.val (.long q1), .second, .val (.long q2), .second, .val (.long q3), .second, .val (.long q4), .second, .val (.int w_), .val (.int mx_), .val (.int dg_), .val (.int ck_), .val (.int i_), .val (.int (w_ * i_)), .val (.int (F_li (w_ * i_))), .val (.long q1), .second] [(.int mx_), (.long (((q1).toUInt64 >>> ((((64 : Int32) - ((w_ * i_) &&& (63 : Int32))) - w_) &&& 0x3f).toInt64.toUInt64).toInt64))])) _
      refine Own.go (fun t k => XS.i2l X0.here hx rfl (hb hby d5_71) rfl k) ?_
      show Own.Fin p e below (s₁.setTop (mkF m 72 #[.val (.long q1), .second, .val (.long q2), .second, .val (.long q3), .second, .val (.long q4), .second, .val (.int w_), .val (.int mx_), .val (.int dg_), .val (.int ck_), .val (.int i_), .val (.int (w_ * i_)), .val (.int (F_li (w_ * i_))), .val (.long q1), .second] [(.long ((mx_).toInt64)), (.long (((q1).toUInt64 >>> ((((64 : Int32) - ((w_ * i_) &&& (63 : Int32))) - w_) &&& 0x3f).toInt64.toUInt64).toInt64))])) _
      refine Own.go (fun t k => XS.land X0.here hx rfl (hb hby d5_72) rfl k) ?_
      show Own.Fin p e below (s₁.setTop (mkF m 73 #[.val (.long q1), .second, .val (.long q2), .second, .val (.long q3), .second, .val (.long q4), .second, .val (.int w_), .val (.int mx_), .val (.int dg_), .val (.int ck_), .val (.int i_), .val (.int (w_ * i_)), .val (.int (F_li (w_ * i_))), .val (.long q1), .second] [(.long ((((q1).toUInt64 >>> ((((64 : Int32) - ((w_ * i_) &&& (63 : Int32))) - w_) &&& 0x3f).toInt64.toUInt64).toInt64) &&& ((mx_).toInt64)))])) _
      refine Own.go (fun t k => XS.l2i X0.here hx rfl (hb hby d5_73) rfl k) ?_
      show Own.Fin p e below (s₁.setTop (mkF m 74 #[.val (.long q1), .second, .val (.long q2), .second, .val (.long q3), .second, .val (.long q4), .second, .val (.int w_), .val (.int mx_), .val (.int dg_), .val (.int ck_), .val (.int i_), .val (.int (w_ * i_)), .val (.int (F_li (w_ * i_))), .val (.long q1), .second] [(.int ((((((q1).toUInt64 >>> ((((64 : Int32) - ((w_ * i_) &&& (63 : Int32))) - w_) &&& 0x3f).toInt64.toUInt64).toInt64) &&& ((mx_).toInt64))).toInt32))])) _
      refine Own.retI X0 hx Bd.notSynchronized Bd.returns (hb hby d5_74) (by decide) (by decide) ?_
      exact ⟨congrArg (fun z => some (Value.int z)) (show _ = F_exp q1 q2 q3 q4 w_ mx_ dg_ ck_ i_ by rw [F_exp, if_pos hc4_0, if_pos hc23_1]; rfl), N0, e0⟩
    · skip
      refine Own.go (fun t k => XS.ifYes X0.here hx rfl (pc0 := 23) (pc' := 30) rfl (hb hby d5_23) rfl ((if0 _ _).trans (feq hc23_1).2) (by decide) (by decide) k) ?_
      show Own.Fin p e below (s₁.setTop (mkF m 30 #[.val (.long q1), .second, .val (.long q2), .second, .val (.long q3), .second, .val (.long q4), .second, .val (.int w_), .val (.int mx_), .val (.int dg_), .val (.int ck_), .val (.int i_), .val (.int (w_ * i_)), .val (.int (F_li (w_ * i_))), .unset, .unset] [])) _
      refine Own.go (fun t k => XS.iload X0.here hx rfl (hb hby d5_30) rfl k) ?_
      show Own.Fin p e below (s₁.setTop (mkF m 32 #[.val (.long q1), .second, .val (.long q2), .second, .val (.long q3), .second, .val (.long q4), .second, .val (.int w_), .val (.int mx_), .val (.int dg_), .val (.int ck_), .val (.int i_), .val (.int (w_ * i_)), .val (.int (F_li (w_ * i_))), .unset, .unset] [(.int (F_li (w_ * i_)))])) _
      refine Own.go (fun t k => XS.iconst X0.here hx rfl (hb hby d5_32) k) ?_
      show Own.Fin p e below (s₁.setTop (mkF m 33 #[.val (.long q1), .second, .val (.long q2), .second, .val (.long q3), .second, .val (.long q4), .second, .val (.int w_), .val (.int mx_), .val (.int dg_), .val (.int ck_), .val (.int i_), .val (.int (w_ * i_)), .val (.int (F_li (w_ * i_))), .unset, .unset] [(.int (1 : Int32)), (.int (F_li (w_ * i_)))])) _
      by_cases hc33_2 : (F_li (w_ * i_)) = (1 : Int32)
      · skip
        refine Own.go (fun t k => XS.icmpNo X0.here hx rfl (hb hby d5_33) rfl (teq hc33_2).2 k) ?_
        show Own.Fin p e below (s₁.setTop (mkF m 36 #[.val (.long q1), .second, .val (.long q2), .second, .val (.long q3), .second, .val (.long q4), .second, .val (.int w_), .val (.int mx_), .val (.int dg_), .val (.int ck_), .val (.int i_), .val (.int (w_ * i_)), .val (.int (F_li (w_ * i_))), .unset, .unset] [])) _
        refine Own.go (fun t k => XS.lloadN X0.here hx rfl (hb hby d5_36) rfl k) ?_
        show Own.Fin p e below (s₁.setTop (mkF m 37 #[.val (.long q1), .second, .val (.long q2), .second, .val (.long q3), .second, .val (.long q4), .second, .val (.int w_), .val (.int mx_), .val (.int dg_), .val (.int ck_), .val (.int i_), .val (.int (w_ * i_)), .val (.int (F_li (w_ * i_))), .unset, .unset] [(.long q2)])) _
        refine Own.go (fun t k => XS.goto X0.here hx rfl (pc0 := 37) (pc' := 53) rfl (hb hby d5_37) (by decide) (by decide) k) ?_
        show Own.Fin p e below (s₁.setTop (mkF m 53 #[.val (.long q1), .second, .val (.long q2), .second, .val (.long q3), .second, .val (.long q4), .second, .val (.int w_), .val (.int mx_), .val (.int dg_), .val (.int ck_), .val (.int i_), .val (.int (w_ * i_)), .val (.int (F_li (w_ * i_))), .unset, .unset] [(.long q2)])) _
        refine Own.go (fun t k => XS.lstore X0.here hx rfl (hb hby d5_53) rfl (l' := #[.val (.long q1), .second, .val (.long q2), .second, .val (.long q3), .second, .val (.long q4), .second, .val (.int w_), .val (.int mx_), .val (.int dg_), .val (.int ck_), .val (.int i_), .val (.int (w_ * i_)), .val (.int (F_li (w_ * i_))), .val (.long q2), .second]) rfl k) ?_
        show Own.Fin p e below (s₁.setTop (mkF m 55 #[.val (.long q1), .second, .val (.long q2), .second, .val (.long q3), .second, .val (.long q4), .second, .val (.int w_), .val (.int mx_), .val (.int dg_), .val (.int ck_), .val (.int i_), .val (.int (w_ * i_)), .val (.int (F_li (w_ * i_))), .val (.long q2), .second] [])) _
        refine Own.go (fun t k => XS.lload X0.here hx rfl (hb hby d5_55) rfl k) ?_
        show Own.Fin p e below (s₁.setTop (mkF m 57 #[.val (.long q1), .second, .val (.long q2), .second, .val (.long q3), .second, .val (.long q4), .second, .val (.int w_), .val (.int mx_), .val (.int dg_), .val (.int ck_), .val (.int i_), .val (.int (w_ * i_)), .val (.int (F_li (w_ * i_))), .val (.long q2), .second] [(.long q2)])) _
        refine Own.go (fun t k => XS.bipush X0.here hx rfl (hb hby d5_57) k) ?_
        show Own.Fin p e below (s₁.setTop (mkF m 59 #[.val (.long q1), .second, .val (.long q2), .second, .val (.long q3), .second, .val (.long q4), .second, .val (.int w_), .val (.int mx_), .val (.int dg_), .val (.int ck_), .val (.int i_), .val (.int (w_ * i_)), .val (.int (F_li (w_ * i_))), .val (.long q2), .second] [(.int (64 : Int32)), (.long q2)])) _
        refine Own.go (fun t k => XS.iload X0.here hx rfl (hb hby d5_59) rfl k) ?_
        show Own.Fin p e below (s₁.setTop (mkF m 61 #[.val (.long q1), .second, .val (.long q2), .second, .val (.long q3), .second, .val (.long q4), .second, .val (.int w_), .val (.int mx_), .val (.int dg_), .val (.int ck_), .val (.int i_), .val (.int (w_ * i_)), .val (.int (F_li (w_ * i_))), .val (.long q2), .second] [(.int (w_ * i_)), (.int (64 : Int32)), (.long q2)])) _
        refine Own.go (fun t k => XS.bipush X0.here hx rfl (hb hby d5_61) k) ?_
        show Own.Fin p e below (s₁.setTop (mkF m 63 #[.val (.long q1), .second, .val (.long q2), .second, .val (.long q3), .second, .val (.long q4), .second, .val (.int w_), .val (.int mx_), .val (.int dg_), .val (.int ck_), .val (.int i_), .val (.int (w_ * i_)), .val (.int (F_li (w_ * i_))), .val (.long q2), .second] [(.int (63 : Int32)), (.int (w_ * i_)), (.int (64 : Int32)), (.long q2)])) _
        refine Own.go (fun t k => XS.iand X0.here hx rfl (hb hby d5_63) rfl k) ?_
        show Own.Fin p e below (s₁.setTop (mkF m 64 #[.val (.long q1), .second, .val (.long q2), .second, .val (.long q3), .second, .val (.long q4), .second, .val (.int w_), .val (.int mx_), .val (.int dg_), .val (.int ck_), .val (.int i_), .val (.int (w_ * i_)), .val (.int (F_li (w_ * i_))), .val (.long q2), .second] [(.int ((w_ * i_) &&& (63 : Int32))), (.int (64 : Int32)), (.long q2)])) _
        refine Own.go (fun t k => XS.isub X0.here hx rfl (hb hby d5_64) rfl k) ?_
        show Own.Fin p e below (s₁.setTop (mkF m 65 #[.val (.long q1), .second, .val (.long q2), .second, .val (.long q3), .second, .val (.long q4), .second, .val (.int w_), .val (.int mx_), .val (.int dg_), .val (.int ck_), .val (.int i_), .val (.int (w_ * i_)), .val (.int (F_li (w_ * i_))), .val (.long q2), .second] [(.int ((64 : Int32) - ((w_ * i_) &&& (63 : Int32)))), (.long q2)])) _
        refine Own.go (fun t k => XS.iload X0.here hx rfl (hb hby d5_65) rfl k) ?_
        show Own.Fin p e below (s₁.setTop (mkF m 67 #[.val (.long q1), .second, .val (.long q2), .second, .val (.long q3), .second, .val (.long q4), .second, .val (.int w_), .val (.int mx_), .val (.int dg_), .val (.int ck_), .val (.int i_), .val (.int (w_ * i_)), .val (.int (F_li (w_ * i_))), .val (.long q2), .second] [(.int w_), (.int ((64 : Int32) - ((w_ * i_) &&& (63 : Int32)))), (.long q2)])) _
        refine Own.go (fun t k => XS.isub X0.here hx rfl (hb hby d5_67) rfl k) ?_
        show Own.Fin p e below (s₁.setTop (mkF m 68 #[.val (.long q1), .second, .val (.long q2), .second, .val (.long q3), .second, .val (.long q4), .second, .val (.int w_), .val (.int mx_), .val (.int dg_), .val (.int ck_), .val (.int i_), .val (.int (w_ * i_)), .val (.int (F_li (w_ * i_))), .val (.long q2), .second] [(.int (((64 : Int32) - ((w_ * i_) &&& (63 : Int32))) - w_)), (.long q2)])) _
        refine Own.go (fun t k => XS.lushr X0.here hx rfl (hb hby d5_68) rfl k) ?_
        show Own.Fin p e below (s₁.setTop (mkF m 69 #[.val (.long q1), .second, .val (.long q2), .second, .val (.long q3), .second, .val (.long q4), .second, .val (.int w_), .val (.int mx_), .val (.int dg_), .val (.int ck_), .val (.int i_), .val (.int (w_ * i_)), .val (.int (F_li (w_ * i_))), .val (.long q2), .second] [(.long (((q2).toUInt64 >>> ((((64 : Int32) - ((w_ * i_) &&& (63 : Int32))) - w_) &&& 0x3f).toInt64.toUInt64).toInt64))])) _
        refine Own.go (fun t k => XS.iload X0.here hx rfl (hb hby d5_69) rfl k) ?_
        show Own.Fin p e below (s₁.setTop (mkF m 71 #[.val (.long q1), .second, .val (.long q2), .second, .val (.long q3), .second, .val (.long q4), .second, .val (.int w_), .val (.int mx_), .val (.int dg_), .val (.int ck_), .val (.int i_), .val (.int (w_ * i_)), .val (.int (F_li (w_ * i_))), .val (.long q2), .second] [(.int mx_), (.long (((q2).toUInt64 >>> ((((64 : Int32) - ((w_ * i_) &&& (63 : Int32))) - w_) &&& 0x3f).toInt64.toUInt64).toInt64))])) _
        refine Own.go (fun t k => XS.i2l X0.here hx rfl (hb hby d5_71) rfl k) ?_
        show Own.Fin p e below (s₁.setTop (mkF m 72 #[.val (.long q1), .second, .val (.long q2), .second, .val (.long q3), .second, .val (.long q4), .second, .val (.int w_), .val (.int mx_), .val (.int dg_), .val (.int ck_), .val (.int i_), .val (.int (w_ * i_)), .val (.int (F_li (w_ * i_))), .val (.long q2), .second] [(.long ((mx_).toInt64)), (.long (((q2).toUInt64 >>> ((((64 : Int32) - ((w_ * i_) &&& (63 : Int32))) - w_) &&& 0x3f).toInt64.toUInt64).toInt64))])) _
        refine Own.go (fun t k => XS.land X0.here hx rfl (hb hby d5_72) rfl k) ?_
        show Own.Fin p e below (s₁.setTop (mkF m 73 #[.val (.long q1), .second, .val (.long q2), .second, .val (.long q3), .second, .val (.long q4), .second, .val (.int w_), .val (.int mx_), .val (.int dg_), .val (.int ck_), .val (.int i_), .val (.int (w_ * i_)), .val (.int (F_li (w_ * i_))), .val (.long q2), .second] [(.long ((((q2).toUInt64 >>> ((((64 : Int32) - ((w_ * i_) &&& (63 : Int32))) - w_) &&& 0x3f).toInt64.toUInt64).toInt64) &&& ((mx_).toInt64)))])) _
        refine Own.go (fun t k => XS.l2i X0.here hx rfl (hb hby d5_73) rfl k) ?_
        show Own.Fin p e below (s₁.setTop (mkF m 74 #[.val (.long q1), .second, .val (.long q2), .second, .val (.long q3), .second, .val (.long q4), .second, .val (.int w_), .val (.int mx_), .val (.int dg_), .val (.int ck_), .val (.int i_), .val (.int (w_ * i_)), .val (.int (F_li (w_ * i_))), .val (.long q2), .second] [(.int ((((((q2).toUInt64 >>> ((((64 : Int32) - ((w_ * i_) &&& (63 : Int32))) - w_) &&& 0x3f).toInt64.toUInt64).toInt64) &&& ((mx_).toInt64))).toInt32))])) _
        refine Own.retI X0 hx Bd.notSynchronized Bd.returns (hb hby d5_74) (by decide) (by decide) ?_
        exact ⟨congrArg (fun z => some (Value.int z)) (show _ = F_exp q1 q2 q3 q4 w_ mx_ dg_ ck_ i_ by rw [F_exp, if_pos hc4_0, if_neg hc23_1, if_pos hc33_2]; rfl), N0, e0⟩
      · skip
        refine Own.go (fun t k => XS.icmpYes X0.here hx rfl (pc0 := 33) (pc' := 40) rfl (hb hby d5_33) rfl (feq hc33_2).2 (by decide) (by decide) k) ?_
        show Own.Fin p e below (s₁.setTop (mkF m 40 #[.val (.long q1), .second, .val (.long q2), .second, .val (.long q3), .second, .val (.long q4), .second, .val (.int w_), .val (.int mx_), .val (.int dg_), .val (.int ck_), .val (.int i_), .val (.int (w_ * i_)), .val (.int (F_li (w_ * i_))), .unset, .unset] [])) _
        refine Own.go (fun t k => XS.iload X0.here hx rfl (hb hby d5_40) rfl k) ?_
        show Own.Fin p e below (s₁.setTop (mkF m 42 #[.val (.long q1), .second, .val (.long q2), .second, .val (.long q3), .second, .val (.long q4), .second, .val (.int w_), .val (.int mx_), .val (.int dg_), .val (.int ck_), .val (.int i_), .val (.int (w_ * i_)), .val (.int (F_li (w_ * i_))), .unset, .unset] [(.int (F_li (w_ * i_)))])) _
        refine Own.go (fun t k => XS.iconst X0.here hx rfl (hb hby d5_42) k) ?_
        show Own.Fin p e below (s₁.setTop (mkF m 43 #[.val (.long q1), .second, .val (.long q2), .second, .val (.long q3), .second, .val (.long q4), .second, .val (.int w_), .val (.int mx_), .val (.int dg_), .val (.int ck_), .val (.int i_), .val (.int (w_ * i_)), .val (.int (F_li (w_ * i_))), .unset, .unset] [(.int (2 : Int32)), (.int (F_li (w_ * i_)))])) _
        by_cases hc43_3 : (F_li (w_ * i_)) = (2 : Int32)
        · skip
          refine Own.go (fun t k => XS.icmpNo X0.here hx rfl (hb hby d5_43) rfl (teq hc43_3).2 k) ?_
          show Own.Fin p e below (s₁.setTop (mkF m 46 #[.val (.long q1), .second, .val (.long q2), .second, .val (.long q3), .second, .val (.long q4), .second, .val (.int w_), .val (.int mx_), .val (.int dg_), .val (.int ck_), .val (.int i_), .val (.int (w_ * i_)), .val (.int (F_li (w_ * i_))), .unset, .unset] [])) _
          refine Own.go (fun t k => XS.lload X0.here hx rfl (hb hby d5_46) rfl k) ?_
          show Own.Fin p e below (s₁.setTop (mkF m 48 #[.val (.long q1), .second, .val (.long q2), .second, .val (.long q3), .second, .val (.long q4), .second, .val (.int w_), .val (.int mx_), .val (.int dg_), .val (.int ck_), .val (.int i_), .val (.int (w_ * i_)), .val (.int (F_li (w_ * i_))), .unset, .unset] [(.long q3)])) _
          refine Own.go (fun t k => XS.goto X0.here hx rfl (pc0 := 48) (pc' := 53) rfl (hb hby d5_48) (by decide) (by decide) k) ?_
          show Own.Fin p e below (s₁.setTop (mkF m 53 #[.val (.long q1), .second, .val (.long q2), .second, .val (.long q3), .second, .val (.long q4), .second, .val (.int w_), .val (.int mx_), .val (.int dg_), .val (.int ck_), .val (.int i_), .val (.int (w_ * i_)), .val (.int (F_li (w_ * i_))), .unset, .unset] [(.long q3)])) _
          refine Own.go (fun t k => XS.lstore X0.here hx rfl (hb hby d5_53) rfl (l' := #[.val (.long q1), .second, .val (.long q2), .second, .val (.long q3), .second, .val (.long q4), .second, .val (.int w_), .val (.int mx_), .val (.int dg_), .val (.int ck_), .val (.int i_), .val (.int (w_ * i_)), .val (.int (F_li (w_ * i_))), .val (.long q3), .second]) rfl k) ?_
          show Own.Fin p e below (s₁.setTop (mkF m 55 #[.val (.long q1), .second, .val (.long q2), .second, .val (.long q3), .second, .val (.long q4), .second, .val (.int w_), .val (.int mx_), .val (.int dg_), .val (.int ck_), .val (.int i_), .val (.int (w_ * i_)), .val (.int (F_li (w_ * i_))), .val (.long q3), .second] [])) _
          refine Own.go (fun t k => XS.lload X0.here hx rfl (hb hby d5_55) rfl k) ?_
          show Own.Fin p e below (s₁.setTop (mkF m 57 #[.val (.long q1), .second, .val (.long q2), .second, .val (.long q3), .second, .val (.long q4), .second, .val (.int w_), .val (.int mx_), .val (.int dg_), .val (.int ck_), .val (.int i_), .val (.int (w_ * i_)), .val (.int (F_li (w_ * i_))), .val (.long q3), .second] [(.long q3)])) _
          refine Own.go (fun t k => XS.bipush X0.here hx rfl (hb hby d5_57) k) ?_
          show Own.Fin p e below (s₁.setTop (mkF m 59 #[.val (.long q1), .second, .val (.long q2), .second, .val (.long q3), .second, .val (.long q4), .second, .val (.int w_), .val (.int mx_), .val (.int dg_), .val (.int ck_), .val (.int i_), .val (.int (w_ * i_)), .val (.int (F_li (w_ * i_))), .val (.long q3), .second] [(.int (64 : Int32)), (.long q3)])) _
          refine Own.go (fun t k => XS.iload X0.here hx rfl (hb hby d5_59) rfl k) ?_
          show Own.Fin p e below (s₁.setTop (mkF m 61 #[.val (.long q1), .second, .val (.long q2), .second, .val (.long q3), .second, .val (.long q4), .second, .val (.int w_), .val (.int mx_), .val (.int dg_), .val (.int ck_), .val (.int i_), .val (.int (w_ * i_)), .val (.int (F_li (w_ * i_))), .val (.long q3), .second] [(.int (w_ * i_)), (.int (64 : Int32)), (.long q3)])) _
          refine Own.go (fun t k => XS.bipush X0.here hx rfl (hb hby d5_61) k) ?_
          show Own.Fin p e below (s₁.setTop (mkF m 63 #[.val (.long q1), .second, .val (.long q2), .second, .val (.long q3), .second, .val (.long q4), .second, .val (.int w_), .val (.int mx_), .val (.int dg_), .val (.int ck_), .val (.int i_), .val (.int (w_ * i_)), .val (.int (F_li (w_ * i_))), .val (.long q3), .second] [(.int (63 : Int32)), (.int (w_ * i_)), (.int (64 : Int32)), (.long q3)])) _
          refine Own.go (fun t k => XS.iand X0.here hx rfl (hb hby d5_63) rfl k) ?_
          show Own.Fin p e below (s₁.setTop (mkF m 64 #[.val (.long q1), .second, .val (.long q2), .second, .val (.long q3), .second, .val (.long q4), .second, .val (.int w_), .val (.int mx_), .val (.int dg_), .val (.int ck_), .val (.int i_), .val (.int (w_ * i_)), .val (.int (F_li (w_ * i_))), .val (.long q3), .second] [(.int ((w_ * i_) &&& (63 : Int32))), (.int (64 : Int32)), (.long q3)])) _
          refine Own.go (fun t k => XS.isub X0.here hx rfl (hb hby d5_64) rfl k) ?_
          show Own.Fin p e below (s₁.setTop (mkF m 65 #[.val (.long q1), .second, .val (.long q2), .second, .val (.long q3), .second, .val (.long q4), .second, .val (.int w_), .val (.int mx_), .val (.int dg_), .val (.int ck_), .val (.int i_), .val (.int (w_ * i_)), .val (.int (F_li (w_ * i_))), .val (.long q3), .second] [(.int ((64 : Int32) - ((w_ * i_) &&& (63 : Int32)))), (.long q3)])) _
          refine Own.go (fun t k => XS.iload X0.here hx rfl (hb hby d5_65) rfl k) ?_
          show Own.Fin p e below (s₁.setTop (mkF m 67 #[.val (.long q1), .second, .val (.long q2), .second, .val (.long q3), .second, .val (.long q4), .second, .val (.int w_), .val (.int mx_), .val (.int dg_), .val (.int ck_), .val (.int i_), .val (.int (w_ * i_)), .val (.int (F_li (w_ * i_))), .val (.long q3), .second] [(.int w_), (.int ((64 : Int32) - ((w_ * i_) &&& (63 : Int32)))), (.long q3)])) _
          refine Own.go (fun t k => XS.isub X0.here hx rfl (hb hby d5_67) rfl k) ?_
          show Own.Fin p e below (s₁.setTop (mkF m 68 #[.val (.long q1), .second, .val (.long q2), .second, .val (.long q3), .second, .val (.long q4), .second, .val (.int w_), .val (.int mx_), .val (.int dg_), .val (.int ck_), .val (.int i_), .val (.int (w_ * i_)), .val (.int (F_li (w_ * i_))), .val (.long q3), .second] [(.int (((64 : Int32) - ((w_ * i_) &&& (63 : Int32))) - w_)), (.long q3)])) _
          refine Own.go (fun t k => XS.lushr X0.here hx rfl (hb hby d5_68) rfl k) ?_
          show Own.Fin p e below (s₁.setTop (mkF m 69 #[.val (.long q1), .second, .val (.long q2), .second, .val (.long q3), .second, .val (.long q4), .second, .val (.int w_), .val (.int mx_), .val (.int dg_), .val (.int ck_), .val (.int i_), .val (.int (w_ * i_)), .val (.int (F_li (w_ * i_))), .val (.long q3), .second] [(.long (((q3).toUInt64 >>> ((((64 : Int32) - ((w_ * i_) &&& (63 : Int32))) - w_) &&& 0x3f).toInt64.toUInt64).toInt64))])) _
          refine Own.go (fun t k => XS.iload X0.here hx rfl (hb hby d5_69) rfl k) ?_
          show Own.Fin p e below (s₁.setTop (mkF m 71 #[.val (.long q1), .second, .val (.long q2), .second, .val (.long q3), .second, .val (.long q4), .second, .val (.int w_), .val (.int mx_), .val (.int dg_), .val (.int ck_), .val (.int i_), .val (.int (w_ * i_)), .val (.int (F_li (w_ * i_))), .val (.long q3), .second] [(.int mx_), (.long (((q3).toUInt64 >>> ((((64 : Int32) - ((w_ * i_) &&& (63 : Int32))) - w_) &&& 0x3f).toInt64.toUInt64).toInt64))])) _
          refine Own.go (fun t k => XS.i2l X0.here hx rfl (hb hby d5_71) rfl k) ?_
          show Own.Fin p e below (s₁.setTop (mkF m 72 #[.val (.long q1), .second, .val (.long q2), .second, .val (.long q3), .second, .val (.long q4), .second, .val (.int w_), .val (.int mx_), .val (.int dg_), .val (.int ck_), .val (.int i_), .val (.int (w_ * i_)), .val (.int (F_li (w_ * i_))), .val (.long q3), .second] [(.long ((mx_).toInt64)), (.long (((q3).toUInt64 >>> ((((64 : Int32) - ((w_ * i_) &&& (63 : Int32))) - w_) &&& 0x3f).toInt64.toUInt64).toInt64))])) _
          refine Own.go (fun t k => XS.land X0.here hx rfl (hb hby d5_72) rfl k) ?_
          show Own.Fin p e below (s₁.setTop (mkF m 73 #[.val (.long q1), .second, .val (.long q2), .second, .val (.long q3), .second, .val (.long q4), .second, .val (.int w_), .val (.int mx_), .val (.int dg_), .val (.int ck_), .val (.int i_), .val (.int (w_ * i_)), .val (.int (F_li (w_ * i_))), .val (.long q3), .second] [(.long ((((q3).toUInt64 >>> ((((64 : Int32) - ((w_ * i_) &&& (63 : Int32))) - w_) &&& 0x3f).toInt64.toUInt64).toInt64) &&& ((mx_).toInt64)))])) _
          refine Own.go (fun t k => XS.l2i X0.here hx rfl (hb hby d5_73) rfl k) ?_
          show Own.Fin p e below (s₁.setTop (mkF m 74 #[.val (.long q1), .second, .val (.long q2), .second, .val (.long q3), .second, .val (.long q4), .second, .val (.int w_), .val (.int mx_), .val (.int dg_), .val (.int ck_), .val (.int i_), .val (.int (w_ * i_)), .val (.int (F_li (w_ * i_))), .val (.long q3), .second] [(.int ((((((q3).toUInt64 >>> ((((64 : Int32) - ((w_ * i_) &&& (63 : Int32))) - w_) &&& 0x3f).toInt64.toUInt64).toInt64) &&& ((mx_).toInt64))).toInt32))])) _
          refine Own.retI X0 hx Bd.notSynchronized Bd.returns (hb hby d5_74) (by decide) (by decide) ?_
          exact ⟨congrArg (fun z => some (Value.int z)) (show _ = F_exp q1 q2 q3 q4 w_ mx_ dg_ ck_ i_ by rw [F_exp, if_pos hc4_0, if_neg hc23_1, if_neg hc33_2, if_pos hc43_3]; rfl), N0, e0⟩
        · skip
          refine Own.go (fun t k => XS.icmpYes X0.here hx rfl (pc0 := 43) (pc' := 51) rfl (hb hby d5_43) rfl (feq hc43_3).2 (by decide) (by decide) k) ?_
          show Own.Fin p e below (s₁.setTop (mkF m 51 #[.val (.long q1), .second, .val (.long q2), .second, .val (.long q3), .second, .val (.long q4), .second, .val (.int w_), .val (.int mx_), .val (.int dg_), .val (.int ck_), .val (.int i_), .val (.int (w_ * i_)), .val (.int (F_li (w_ * i_))), .unset, .unset] [])) _
          refine Own.go (fun t k => XS.lload X0.here hx rfl (hb hby d5_51) rfl k) ?_
          show Own.Fin p e below (s₁.setTop (mkF m 53 #[.val (.long q1), .second, .val (.long q2), .second, .val (.long q3), .second, .val (.long q4), .second, .val (.int w_), .val (.int mx_), .val (.int dg_), .val (.int ck_), .val (.int i_), .val (.int (w_ * i_)), .val (.int (F_li (w_ * i_))), .unset, .unset] [(.long q4)])) _
          refine Own.go (fun t k => XS.lstore X0.here hx rfl (hb hby d5_53) rfl (l' := #[.val (.long q1), .second, .val (.long q2), .second, .val (.long q3), .second, .val (.long q4), .second, .val (.int w_), .val (.int mx_), .val (.int dg_), .val (.int ck_), .val (.int i_), .val (.int (w_ * i_)), .val (.int (F_li (w_ * i_))), .val (.long q4), .second]) rfl k) ?_
          show Own.Fin p e below (s₁.setTop (mkF m 55 #[.val (.long q1), .second, .val (.long q2), .second, .val (.long q3), .second, .val (.long q4), .second, .val (.int w_), .val (.int mx_), .val (.int dg_), .val (.int ck_), .val (.int i_), .val (.int (w_ * i_)), .val (.int (F_li (w_ * i_))), .val (.long q4), .second] [])) _
          refine Own.go (fun t k => XS.lload X0.here hx rfl (hb hby d5_55) rfl k) ?_
          show Own.Fin p e below (s₁.setTop (mkF m 57 #[.val (.long q1), .second, .val (.long q2), .second, .val (.long q3), .second, .val (.long q4), .second, .val (.int w_), .val (.int mx_), .val (.int dg_), .val (.int ck_), .val (.int i_), .val (.int (w_ * i_)), .val (.int (F_li (w_ * i_))), .val (.long q4), .second] [(.long q4)])) _
          refine Own.go (fun t k => XS.bipush X0.here hx rfl (hb hby d5_57) k) ?_
          show Own.Fin p e below (s₁.setTop (mkF m 59 #[.val (.long q1), .second, .val (.long q2), .second, .val (.long q3), .second, .val (.long q4), .second, .val (.int w_), .val (.int mx_), .val (.int dg_), .val (.int ck_), .val (.int i_), .val (.int (w_ * i_)), .val (.int (F_li (w_ * i_))), .val (.long q4), .second] [(.int (64 : Int32)), (.long q4)])) _
          refine Own.go (fun t k => XS.iload X0.here hx rfl (hb hby d5_59) rfl k) ?_
          show Own.Fin p e below (s₁.setTop (mkF m 61 #[.val (.long q1), .second, .val (.long q2), .second, .val (.long q3), .second, .val (.long q4), .second, .val (.int w_), .val (.int mx_), .val (.int dg_), .val (.int ck_), .val (.int i_), .val (.int (w_ * i_)), .val (.int (F_li (w_ * i_))), .val (.long q4), .second] [(.int (w_ * i_)), (.int (64 : Int32)), (.long q4)])) _
          refine Own.go (fun t k => XS.bipush X0.here hx rfl (hb hby d5_61) k) ?_
          show Own.Fin p e below (s₁.setTop (mkF m 63 #[.val (.long q1), .second, .val (.long q2), .second, .val (.long q3), .second, .val (.long q4), .second, .val (.int w_), .val (.int mx_), .val (.int dg_), .val (.int ck_), .val (.int i_), .val (.int (w_ * i_)), .val (.int (F_li (w_ * i_))), .val (.long q4), .second] [(.int (63 : Int32)), (.int (w_ * i_)), (.int (64 : Int32)), (.long q4)])) _
          refine Own.go (fun t k => XS.iand X0.here hx rfl (hb hby d5_63) rfl k) ?_
          show Own.Fin p e below (s₁.setTop (mkF m 64 #[.val (.long q1), .second, .val (.long q2), .second, .val (.long q3), .second, .val (.long q4), .second, .val (.int w_), .val (.int mx_), .val (.int dg_), .val (.int ck_), .val (.int i_), .val (.int (w_ * i_)), .val (.int (F_li (w_ * i_))), .val (.long q4), .second] [(.int ((w_ * i_) &&& (63 : Int32))), (.int (64 : Int32)), (.long q4)])) _
          refine Own.go (fun t k => XS.isub X0.here hx rfl (hb hby d5_64) rfl k) ?_
          show Own.Fin p e below (s₁.setTop (mkF m 65 #[.val (.long q1), .second, .val (.long q2), .second, .val (.long q3), .second, .val (.long q4), .second, .val (.int w_), .val (.int mx_), .val (.int dg_), .val (.int ck_), .val (.int i_), .val (.int (w_ * i_)), .val (.int (F_li (w_ * i_))), .val (.long q4), .second] [(.int ((64 : Int32) - ((w_ * i_) &&& (63 : Int32)))), (.long q4)])) _
          refine Own.go (fun t k => XS.iload X0.here hx rfl (hb hby d5_65) rfl k) ?_
          show Own.Fin p e below (s₁.setTop (mkF m 67 #[.val (.long q1), .second, .val (.long q2), .second, .val (.long q3), .second, .val (.long q4), .second, .val (.int w_), .val (.int mx_), .val (.int dg_), .val (.int ck_), .val (.int i_), .val (.int (w_ * i_)), .val (.int (F_li (w_ * i_))), .val (.long q4), .second] [(.int w_), (.int ((64 : Int32) - ((w_ * i_) &&& (63 : Int32)))), (.long q4)])) _
          refine Own.go (fun t k => XS.isub X0.here hx rfl (hb hby d5_67) rfl k) ?_
          show Own.Fin p e below (s₁.setTop (mkF m 68 #[.val (.long q1), .second, .val (.long q2), .second, .val (.long q3), .second, .val (.long q4), .second, .val (.int w_), .val (.int mx_), .val (.int dg_), .val (.int ck_), .val (.int i_), .val (.int (w_ * i_)), .val (.int (F_li (w_ * i_))), .val (.long q4), .second] [(.int (((64 : Int32) - ((w_ * i_) &&& (63 : Int32))) - w_)), (.long q4)])) _
          refine Own.go (fun t k => XS.lushr X0.here hx rfl (hb hby d5_68) rfl k) ?_
          show Own.Fin p e below (s₁.setTop (mkF m 69 #[.val (.long q1), .second, .val (.long q2), .second, .val (.long q3), .second, .val (.long q4), .second, .val (.int w_), .val (.int mx_), .val (.int dg_), .val (.int ck_), .val (.int i_), .val (.int (w_ * i_)), .val (.int (F_li (w_ * i_))), .val (.long q4), .second] [(.long (((q4).toUInt64 >>> ((((64 : Int32) - ((w_ * i_) &&& (63 : Int32))) - w_) &&& 0x3f).toInt64.toUInt64).toInt64))])) _
          refine Own.go (fun t k => XS.iload X0.here hx rfl (hb hby d5_69) rfl k) ?_
          show Own.Fin p e below (s₁.setTop (mkF m 71 #[.val (.long q1), .second, .val (.long q2), .second, .val (.long q3), .second, .val (.long q4), .second, .val (.int w_), .val (.int mx_), .val (.int dg_), .val (.int ck_), .val (.int i_), .val (.int (w_ * i_)), .val (.int (F_li (w_ * i_))), .val (.long q4), .second] [(.int mx_), (.long (((q4).toUInt64 >>> ((((64 : Int32) - ((w_ * i_) &&& (63 : Int32))) - w_) &&& 0x3f).toInt64.toUInt64).toInt64))])) _
          refine Own.go (fun t k => XS.i2l X0.here hx rfl (hb hby d5_71) rfl k) ?_
          show Own.Fin p e below (s₁.setTop (mkF m 72 #[.val (.long q1), .second, .val (.long q2), .second, .val (.long q3), .second, .val (.long q4), .second, .val (.int w_), .val (.int mx_), .val (.int dg_), .val (.int ck_), .val (.int i_), .val (.int (w_ * i_)), .val (.int (F_li (w_ * i_))), .val (.long q4), .second] [(.long ((mx_).toInt64)), (.long (((q4).toUInt64 >>> ((((64 : Int32) - ((w_ * i_) &&& (63 : Int32))) - w_) &&& 0x3f).toInt64.toUInt64).toInt64))])) _
          refine Own.go (fun t k => XS.land X0.here hx rfl (hb hby d5_72) rfl k) ?_
          show Own.Fin p e below (s₁.setTop (mkF m 73 #[.val (.long q1), .second, .val (.long q2), .second, .val (.long q3), .second, .val (.long q4), .second, .val (.int w_), .val (.int mx_), .val (.int dg_), .val (.int ck_), .val (.int i_), .val (.int (w_ * i_)), .val (.int (F_li (w_ * i_))), .val (.long q4), .second] [(.long ((((q4).toUInt64 >>> ((((64 : Int32) - ((w_ * i_) &&& (63 : Int32))) - w_) &&& 0x3f).toInt64.toUInt64).toInt64) &&& ((mx_).toInt64)))])) _
          refine Own.go (fun t k => XS.l2i X0.here hx rfl (hb hby d5_73) rfl k) ?_
          show Own.Fin p e below (s₁.setTop (mkF m 74 #[.val (.long q1), .second, .val (.long q2), .second, .val (.long q3), .second, .val (.long q4), .second, .val (.int w_), .val (.int mx_), .val (.int dg_), .val (.int ck_), .val (.int i_), .val (.int (w_ * i_)), .val (.int (F_li (w_ * i_))), .val (.long q4), .second] [(.int ((((((q4).toUInt64 >>> ((((64 : Int32) - ((w_ * i_) &&& (63 : Int32))) - w_) &&& 0x3f).toInt64.toUInt64).toInt64) &&& ((mx_).toInt64))).toInt32))])) _
          refine Own.retI X0 hx Bd.notSynchronized Bd.returns (hb hby d5_74) (by decide) (by decide) ?_
          exact ⟨congrArg (fun z => some (Value.int z)) (show _ = F_exp q1 q2 q3 q4 w_ mx_ dg_ ck_ i_ by rw [F_exp, if_pos hc4_0, if_neg hc23_1, if_neg hc33_2, if_neg hc43_3]; rfl), N0, e0⟩
  · skip
    refine Own.go (fun t k => XS.icmpYes X0.here hx rfl (pc0 := 4) (pc' := 75) rfl (hb hby d5_4) rfl (flt hc4_0).2.1 (by decide) (by decide) k) ?_
    show Own.Fin p e below (s₁.setTop (mkF m 75 #[.val (.long q1), .second, .val (.long q2), .second, .val (.long q3), .second, .val (.long q4), .second, .val (.int w_), .val (.int mx_), .val (.int dg_), .val (.int ck_), .val (.int i_), .unset, .unset, .unset, .unset] [])) _
    refine Own.go (fun t k => XS.iload X0.here hx rfl (hb hby d5_75) rfl k) ?_
    show Own.Fin p e below (s₁.setTop (mkF m 77 #[.val (.long q1), .second, .val (.long q2), .second, .val (.long q3), .second, .val (.long q4), .second, .val (.int w_), .val (.int mx_), .val (.int dg_), .val (.int ck_), .val (.int i_), .unset, .unset, .unset, .unset] [(.int i_)])) _
    refine Own.go (fun t k => XS.iload X0.here hx rfl (hb hby d5_77) rfl k) ?_
    show Own.Fin p e below (s₁.setTop (mkF m 79 #[.val (.long q1), .second, .val (.long q2), .second, .val (.long q3), .second, .val (.long q4), .second, .val (.int w_), .val (.int mx_), .val (.int dg_), .val (.int ck_), .val (.int i_), .unset, .unset, .unset, .unset] [(.int dg_), (.int i_)])) _
    refine Own.go (fun t k => XS.isub X0.here hx rfl (hb hby d5_79) rfl k) ?_
    show Own.Fin p e below (s₁.setTop (mkF m 80 #[.val (.long q1), .second, .val (.long q2), .second, .val (.long q3), .second, .val (.long q4), .second, .val (.int w_), .val (.int mx_), .val (.int dg_), .val (.int ck_), .val (.int i_), .unset, .unset, .unset, .unset] [(.int (i_ - dg_))])) _
    refine Own.go (fun t k => XS.istore X0.here hx rfl (hb hby d5_80) rfl (l' := #[.val (.long q1), .second, .val (.long q2), .second, .val (.long q3), .second, .val (.long q4), .second, .val (.int w_), .val (.int mx_), .val (.int dg_), .val (.int ck_), .val (.int i_), .val (.int (i_ - dg_)), .unset, .unset, .unset]) rfl k) ?_
    show Own.Fin p e below (s₁.setTop (mkF m 82 #[.val (.long q1), .second, .val (.long q2), .second, .val (.long q3), .second, .val (.long q4), .second, .val (.int w_), .val (.int mx_), .val (.int dg_), .val (.int ck_), .val (.int i_), .val (.int (i_ - dg_)), .unset, .unset, .unset] [])) _
    refine Own.go (fun t k => XS.iload X0.here hx rfl (hb hby d5_82) rfl k) ?_
    show Own.Fin p e below (s₁.setTop (mkF m 84 #[.val (.long q1), .second, .val (.long q2), .second, .val (.long q3), .second, .val (.long q4), .second, .val (.int w_), .val (.int mx_), .val (.int dg_), .val (.int ck_), .val (.int i_), .val (.int (i_ - dg_)), .unset, .unset, .unset] [(.int ck_)])) _
    refine Own.go (fun t k => XS.bipush X0.here hx rfl (hb hby d5_84) k) ?_
    show Own.Fin p e below (s₁.setTop (mkF m 86 #[.val (.long q1), .second, .val (.long q2), .second, .val (.long q3), .second, .val (.long q4), .second, .val (.int w_), .val (.int mx_), .val (.int dg_), .val (.int ck_), .val (.int i_), .val (.int (i_ - dg_)), .unset, .unset, .unset] [(.int (16 : Int32)), (.int ck_)])) _
    refine Own.go (fun t k => XS.iload X0.here hx rfl (hb hby d5_86) rfl k) ?_
    show Own.Fin p e below (s₁.setTop (mkF m 88 #[.val (.long q1), .second, .val (.long q2), .second, .val (.long q3), .second, .val (.long q4), .second, .val (.int w_), .val (.int mx_), .val (.int dg_), .val (.int ck_), .val (.int i_), .val (.int (i_ - dg_)), .unset, .unset, .unset] [(.int w_), (.int (16 : Int32)), (.int ck_)])) _
    refine Own.go (fun t k => XS.iload X0.here hx rfl (hb hby d5_88) rfl k) ?_
    show Own.Fin p e below (s₁.setTop (mkF m 90 #[.val (.long q1), .second, .val (.long q2), .second, .val (.long q3), .second, .val (.long q4), .second, .val (.int w_), .val (.int mx_), .val (.int dg_), .val (.int ck_), .val (.int i_), .val (.int (i_ - dg_)), .unset, .unset, .unset] [(.int (i_ - dg_)), (.int w_), (.int (16 : Int32)), (.int ck_)])) _
    refine Own.go (fun t k => XS.iconst X0.here hx rfl (hb hby d5_90) k) ?_
    show Own.Fin p e below (s₁.setTop (mkF m 91 #[.val (.long q1), .second, .val (.long q2), .second, .val (.long q3), .second, .val (.long q4), .second, .val (.int w_), .val (.int mx_), .val (.int dg_), .val (.int ck_), .val (.int i_), .val (.int (i_ - dg_)), .unset, .unset, .unset] [(.int (1 : Int32)), (.int (i_ - dg_)), (.int w_), (.int (16 : Int32)), (.int ck_)])) _
    refine Own.go (fun t k => XS.iadd X0.here hx rfl (hb hby d5_91) rfl k) ?_
    show Own.Fin p e below (s₁.setTop (mkF m 92 #[.val (.long q1), .second, .val (.long q2), .second, .val (.long q3), .second, .val (.long q4), .second, .val (.int w_), .val (.int mx_), .val (.int dg_), .val (.int ck_), .val (.int i_), .val (.int (i_ - dg_)), .unset, .unset, .unset] [(.int ((i_ - dg_) + (1 : Int32))), (.int w_), (.int (16 : Int32)), (.int ck_)])) _
    refine Own.go (fun t k => XS.imul X0.here hx rfl (hb hby d5_92) rfl k) ?_
    show Own.Fin p e below (s₁.setTop (mkF m 93 #[.val (.long q1), .second, .val (.long q2), .second, .val (.long q3), .second, .val (.long q4), .second, .val (.int w_), .val (.int mx_), .val (.int dg_), .val (.int ck_), .val (.int i_), .val (.int (i_ - dg_)), .unset, .unset, .unset] [(.int (w_ * ((i_ - dg_) + (1 : Int32)))), (.int (16 : Int32)), (.int ck_)])) _
    refine Own.go (fun t k => XS.isub X0.here hx rfl (hb hby d5_93) rfl k) ?_
    show Own.Fin p e below (s₁.setTop (mkF m 94 #[.val (.long q1), .second, .val (.long q2), .second, .val (.long q3), .second, .val (.long q4), .second, .val (.int w_), .val (.int mx_), .val (.int dg_), .val (.int ck_), .val (.int i_), .val (.int (i_ - dg_)), .unset, .unset, .unset] [(.int ((16 : Int32) - (w_ * ((i_ - dg_) + (1 : Int32))))), (.int ck_)])) _
    refine Own.go (fun t k => XS.iushr X0.here hx rfl (hb hby d5_94) rfl k) ?_
    show Own.Fin p e below (s₁.setTop (mkF m 95 #[.val (.long q1), .second, .val (.long q2), .second, .val (.long q3), .second, .val (.long q4), .second, .val (.int w_), .val (.int mx_), .val (.int dg_), .val (.int ck_), .val (.int i_), .val (.int (i_ - dg_)), .unset, .unset, .unset] [(.int (((ck_).toUInt32 >>> (((16 : Int32) - (w_ * ((i_ - dg_) + (1 : Int32)))) &&& 31).toUInt32).toInt32))])) _
    refine Own.go (fun t k => XS.iload X0.here hx rfl (hb hby d5_95) rfl k) ?_
    show Own.Fin p e below (s₁.setTop (mkF m 97 #[.val (.long q1), .second, .val (.long q2), .second, .val (.long q3), .second, .val (.long q4), .second, .val (.int w_), .val (.int mx_), .val (.int dg_), .val (.int ck_), .val (.int i_), .val (.int (i_ - dg_)), .unset, .unset, .unset] [(.int mx_), (.int (((ck_).toUInt32 >>> (((16 : Int32) - (w_ * ((i_ - dg_) + (1 : Int32)))) &&& 31).toUInt32).toInt32))])) _
    refine Own.go (fun t k => XS.iand X0.here hx rfl (hb hby d5_97) rfl k) ?_
    show Own.Fin p e below (s₁.setTop (mkF m 98 #[.val (.long q1), .second, .val (.long q2), .second, .val (.long q3), .second, .val (.long q4), .second, .val (.int w_), .val (.int mx_), .val (.int dg_), .val (.int ck_), .val (.int i_), .val (.int (i_ - dg_)), .unset, .unset, .unset] [(.int ((((ck_).toUInt32 >>> (((16 : Int32) - (w_ * ((i_ - dg_) + (1 : Int32)))) &&& 31).toUInt32).toInt32) &&& mx_))])) _
    refine Own.retI X0 hx Bd.notSynchronized Bd.returns (hb hby d5_98) (by decide) (by decide) ?_
    exact ⟨congrArg (fun z => some (Value.int z)) (show _ = F_exp q1 q2 q3 q4 w_ mx_ dg_ ck_ i_ by rw [F_exp, if_neg hc4_0]; rfl), N0, e0⟩
theorem pd_3 : parseMethodDescriptor "(JI)I" = some ⟨[.long, .int], some .int⟩ := by decide +kernel
theorem pd_4 : parseMethodDescriptor "(JJJJIIIII)I" = some ⟨[.long, .long, .long, .long, .int, .int, .int, .int, .int], some .int⟩ := by decide +kernel
theorem pd_2 : parseMethodDescriptor "([B)[I" = some ⟨[(.array .byte)], some (.array .int)⟩ := by decide +kernel
theorem pd_1 : parseMethodDescriptor "([BIJ)V" = some ⟨[(.array .byte), .int, .long], none⟩ := by decide +kernel
theorem pn_0 : plainName "com/example/treadle/treadle/LmOtsTypeCoefficientsPinLaw" = true := by first | (simp [plainName, overriddenIn]; done) | decide +kernel
theorem ef_0 (m : MethodId) (q1 : Int64) (q2 : Int64) (q3 : Int64) (q4 : Int64) (p5 : Int32) (p6 : Int32) : entryFrame m #[(.long q1), (.long q2), (.long q3), (.long q4), (.int p5), (.int p6)] maxLocals = mkF m 0 #[.val (.long q1), .second, .val (.long q2), .second, .val (.long q3), .second, .val (.long q4), .second, .val (.int p5), .val (.int p6), .unset, .unset, .unset, .unset, .unset, .unset, .unset, .unset, .unset, .unset, .unset, .unset, .unset, .unset] [] := by first | (simp [entryFrame, mkF, argsToLocals, Value.category, maxLocals]; done) | rfl
def Q0 (Z : State) (q1 : Int64) (q2 : Int64) (q3 : Int64) (q4 : Int64) (p5 : Int32) (p6 : Int32) (aN32_W1 aN32_W2 aN32_W4 aN32_W8 aN24_W1 aN24_W2 aN24_W4 aN24_W8 : Addr) (h0 : Heap) (n0 : Nat) : Option Value → Heap → List Loc → Prop := fun v h L => v = some (.int 1) ∧ Fr n0 L
set_option maxRecDepth 65536 in
set_option maxHeartbeats 40000000 in
theorem rm0 (l : Launch) (Z : State) (a0 : Array Value) (hw : ∀ d ∈ tables_1, d.before a0 Z = true) (ws : List Jvm.Cond) (q1 : Int64) (q2 : Int64) (q3 : Int64) (q4 : Int64) (p5 : Int32) (p6 : Int32) (aN32_W1 aN32_W2 aN32_W4 aN32_W8 aN24_W1 aN24_W2 aN24_W4 aN24_W8 : Addr) (h0 : Heap) (n0 : Nat) (Z0 : n0 ≤ h0.size) (O0 : Old Z n0 h0) (S_aN32_W1 : Sta Z Z.heap "com/example/treadle/treadle/LmOtsType" "LMOTS_SHA256_N32_W1" "Lcom/example/treadle/treadle/LmOtsType;" (.ref aN32_W1)) (E_aN32_W1 : Exa Z Z.heap aN32_W1 "com/example/treadle/treadle/LmOtsType") (F_w_aN32_W1 : Fld Z Z.heap aN32_W1 "com/example/treadle/treadle/LmOtsType" "w" "I" (.int (1 : Int32))) (F_n_aN32_W1 : Fld Z Z.heap aN32_W1 "com/example/treadle/treadle/LmOtsType" "n" "I" (.int (32 : Int32))) (F_p_aN32_W1 : Fld Z Z.heap aN32_W1 "com/example/treadle/treadle/LmOtsType" "p" "I" (.int (265 : Int32))) (F_ls_aN32_W1 : Fld Z Z.heap aN32_W1 "com/example/treadle/treadle/LmOtsType" "ls" "I" (.int (7 : Int32))) (S_aN32_W2 : Sta Z Z.heap "com/example/treadle/treadle/LmOtsType" "LMOTS_SHA256_N32_W2" "Lcom/example/treadle/treadle/LmOtsType;" (.ref aN32_W2)) (E_aN32_W2 : Exa Z Z.heap aN32_W2 "com/example/treadle/treadle/LmOtsType") (F_w_aN32_W2 : Fld Z Z.heap aN32_W2 "com/example/treadle/treadle/LmOtsType" "w" "I" (.int (2 : Int32))) (F_n_aN32_W2 : Fld Z Z.heap aN32_W2 "com/example/treadle/treadle/LmOtsType" "n" "I" (.int (32 : Int32))) (F_p_aN32_W2 : Fld Z Z.heap aN32_W2 "com/example/treadle/treadle/LmOtsType" "p" "I" (.int (133 : Int32))) (F_ls_aN32_W2 : Fld Z Z.heap aN32_W2 "com/example/treadle/treadle/LmOtsType" "ls" "I" (.int (6 : Int32))) (S_aN32_W4 : Sta Z Z.heap "com/example/treadle/treadle/LmOtsType" "LMOTS_SHA256_N32_W4" "Lcom/example/treadle/treadle/LmOtsType;" (.ref aN32_W4)) (E_aN32_W4 : Exa Z Z.heap aN32_W4 "com/example/treadle/treadle/LmOtsType") (F_w_aN32_W4 : Fld Z Z.heap aN32_W4 "com/example/treadle/treadle/LmOtsType" "w" "I" (.int (4 : Int32))) (F_n_aN32_W4 : Fld Z Z.heap aN32_W4 "com/example/treadle/treadle/LmOtsType" "n" "I" (.int (32 : Int32))) (F_p_aN32_W4 : Fld Z Z.heap aN32_W4 "com/example/treadle/treadle/LmOtsType" "p" "I" (.int (67 : Int32))) (F_ls_aN32_W4 : Fld Z Z.heap aN32_W4 "com/example/treadle/treadle/LmOtsType" "ls" "I" (.int (4 : Int32))) (S_aN32_W8 : Sta Z Z.heap "com/example/treadle/treadle/LmOtsType" "LMOTS_SHA256_N32_W8" "Lcom/example/treadle/treadle/LmOtsType;" (.ref aN32_W8)) (E_aN32_W8 : Exa Z Z.heap aN32_W8 "com/example/treadle/treadle/LmOtsType") (F_w_aN32_W8 : Fld Z Z.heap aN32_W8 "com/example/treadle/treadle/LmOtsType" "w" "I" (.int (8 : Int32))) (F_n_aN32_W8 : Fld Z Z.heap aN32_W8 "com/example/treadle/treadle/LmOtsType" "n" "I" (.int (32 : Int32))) (F_p_aN32_W8 : Fld Z Z.heap aN32_W8 "com/example/treadle/treadle/LmOtsType" "p" "I" (.int (34 : Int32))) (F_ls_aN32_W8 : Fld Z Z.heap aN32_W8 "com/example/treadle/treadle/LmOtsType" "ls" "I" (.int (0 : Int32))) (S_aN24_W1 : Sta Z Z.heap "com/example/treadle/treadle/LmOtsType" "LMOTS_SHA256_N24_W1" "Lcom/example/treadle/treadle/LmOtsType;" (.ref aN24_W1)) (E_aN24_W1 : Exa Z Z.heap aN24_W1 "com/example/treadle/treadle/LmOtsType") (F_w_aN24_W1 : Fld Z Z.heap aN24_W1 "com/example/treadle/treadle/LmOtsType" "w" "I" (.int (1 : Int32))) (F_n_aN24_W1 : Fld Z Z.heap aN24_W1 "com/example/treadle/treadle/LmOtsType" "n" "I" (.int (24 : Int32))) (F_p_aN24_W1 : Fld Z Z.heap aN24_W1 "com/example/treadle/treadle/LmOtsType" "p" "I" (.int (200 : Int32))) (F_ls_aN24_W1 : Fld Z Z.heap aN24_W1 "com/example/treadle/treadle/LmOtsType" "ls" "I" (.int (8 : Int32))) (S_aN24_W2 : Sta Z Z.heap "com/example/treadle/treadle/LmOtsType" "LMOTS_SHA256_N24_W2" "Lcom/example/treadle/treadle/LmOtsType;" (.ref aN24_W2)) (E_aN24_W2 : Exa Z Z.heap aN24_W2 "com/example/treadle/treadle/LmOtsType") (F_w_aN24_W2 : Fld Z Z.heap aN24_W2 "com/example/treadle/treadle/LmOtsType" "w" "I" (.int (2 : Int32))) (F_n_aN24_W2 : Fld Z Z.heap aN24_W2 "com/example/treadle/treadle/LmOtsType" "n" "I" (.int (24 : Int32))) (F_p_aN24_W2 : Fld Z Z.heap aN24_W2 "com/example/treadle/treadle/LmOtsType" "p" "I" (.int (101 : Int32))) (F_ls_aN24_W2 : Fld Z Z.heap aN24_W2 "com/example/treadle/treadle/LmOtsType" "ls" "I" (.int (6 : Int32))) (S_aN24_W4 : Sta Z Z.heap "com/example/treadle/treadle/LmOtsType" "LMOTS_SHA256_N24_W4" "Lcom/example/treadle/treadle/LmOtsType;" (.ref aN24_W4)) (E_aN24_W4 : Exa Z Z.heap aN24_W4 "com/example/treadle/treadle/LmOtsType") (F_w_aN24_W4 : Fld Z Z.heap aN24_W4 "com/example/treadle/treadle/LmOtsType" "w" "I" (.int (4 : Int32))) (F_n_aN24_W4 : Fld Z Z.heap aN24_W4 "com/example/treadle/treadle/LmOtsType" "n" "I" (.int (24 : Int32))) (F_p_aN24_W4 : Fld Z Z.heap aN24_W4 "com/example/treadle/treadle/LmOtsType" "p" "I" (.int (51 : Int32))) (F_ls_aN24_W4 : Fld Z Z.heap aN24_W4 "com/example/treadle/treadle/LmOtsType" "ls" "I" (.int (4 : Int32))) (S_aN24_W8 : Sta Z Z.heap "com/example/treadle/treadle/LmOtsType" "LMOTS_SHA256_N24_W8" "Lcom/example/treadle/treadle/LmOtsType;" (.ref aN24_W8)) (E_aN24_W8 : Exa Z Z.heap aN24_W8 "com/example/treadle/treadle/LmOtsType") (F_w_aN24_W8 : Fld Z Z.heap aN24_W8 "com/example/treadle/treadle/LmOtsType" "w" "I" (.int (8 : Int32))) (F_n_aN24_W8 : Fld Z Z.heap aN24_W8 "com/example/treadle/treadle/LmOtsType" "n" "I" (.int (24 : Int32))) (F_p_aN24_W8 : Fld Z Z.heap aN24_W8 "com/example/treadle/treadle/LmOtsType" "p" "I" (.int (26 : Int32))) (F_ls_aN24_W8 : Fld Z Z.heap aN24_W8 "com/example/treadle/treadle/LmOtsType" "ls" "I" (.int (0 : Int32))) :
    MetFree l x (head1 (Jvm.Cond.code x code maxLocals ret :: ws) room_1) (fun a U => a = #[(.long q1), (.long q2), (.long q3), (.long q4), (.int p5), (.int p6)] ∧ Z.Warmed39 U.vm ∧ U.heap = h0) (fun _ _ _ _ _ => True) (fun _ U o U' => ∃ v L, o = .returned v ∧ (Q0 Z q1 q2 q3 q4 p5 p6 aN32_W1 aN32_W2 aN32_W4 aN32_W8 aN24_W1 aN24_W2 aN24_W4 aN24_W8 h0 n0) v U'.heap L ∧ FrameEnd U o U' L room_1.cells room_1.slots) := by
  refine MetFree.of_bodySF (plainFor_of_name pn_0) hisR ?_
  intro p e s m args below meth c s₁ Bd hml0 hP hK
  obtain ⟨rfl, hZ, hh⟩ := hP
  have hx := Bd.exec
  have hby := Bd.bytes
  have hml : c.maxLocals = 24 := hml0
  have hown : s.vm.findClass "com/example/treadle/treadle/LmOtsTypeCoefficientsPinLaw" = some m.cls := findClass_of_methodNamed Bd.named
  have hnm := (name_of_methodNamed Bd.named Bd.method).1
  have X0 : Stand p l e room_1 s m #[(.long q1), (.long q2), (.long q3), (.long q4), (.int p5), (.int p6)] below meth c s₁ [] 0 0 := Stand.of_body Bd
  have e0 : s₁.heap = h0 := by rw [← hh, Bd.state]; rfl
  have N0 := Fr.nil n0
  show Own.Fin p e below _ (Own.Post s (Q0 Z q1 q2 q3 q4 p5 p6 aN32_W1 aN32_W2 aN32_W4 aN32_W8 aN24_W1 aN24_W2 aN24_W4 aN24_W8 h0 n0) room_1.cells room_1.slots)
  refine Own.start (ef_0 m q1 q2 q3 q4 p5 p6) ?_
  have join : ∀ (Tj : State) (Xj : Stand p l e room_1 s m #[(.long q1), (.long q2), (.long q3), (.long q4), (.int p5), (.int p6)] below meth c Tj [] 0 0) (ej : Tj.heap = h0) (oa : Addr) (wv nv pv lv : Int32) (wN uN N dN pN : Nat) (hP : (wv, nv, pv, lv, wN, uN, N, dN, pN) ∈ Rows) (E0 : Exa Z Z.heap oa "com/example/treadle/treadle/LmOtsType") (F_w : Fld Z Z.heap oa "com/example/treadle/treadle/LmOtsType" "w" "I" (.int wv)) (F_n : Fld Z Z.heap oa "com/example/treadle/treadle/LmOtsType" "n" "I" (.int nv)) (F_p : Fld Z Z.heap oa "com/example/treadle/treadle/LmOtsType" "p" "I" (.int pv)) (F_ls : Fld Z Z.heap oa "com/example/treadle/treadle/LmOtsType" "ls" "I" (.int lv)), Own.Fin p e below (Tj.setTop (mkF m 266 #[.val (.long q1), .second, .val (.long q2), .second, .val (.long q3), .second, .val (.long q4), .second, .val (.int p5), .val (.int p6), .val (.int (p5 &&& (7 : Int32))), .val (.ref oa), .val (.int nv), .val (.int wv), .val (.int pv), .val (.int lv), .val (.int (Int32.ofNat dN)), .unset, .unset, .unset, .unset, .unset, .unset, .unset] [])) (Own.Post s (Q0 Z q1 q2 q3 q4 p5 p6 aN32_W1 aN32_W2 aN32_W4 aN32_W8 aN24_W1 aN24_W2 aN24_W4 aN24_W8 h0 n0) room_1.cells room_1.slots) := by
    intro Tj Xj ej oa wv nv pv lv wN uN N dN pN hP E0 F_w F_n F_p F_ls
    have hf := rows_f _ hP
    have hr := row_n _ hP
    have hu := row_u _ hP
    simp only at hf hr hu
    obtain ⟨fx1, fx2, fx3, fx4, fx5, fx6, fx7, fx8, fx9, fx10, fx11, fx12, fx13, fx14⟩ := hf
    obtain ⟨r1, r2, r3, r4, r5⟩ := hr
    obtain ⟨u1, hw8, u3, u4⟩ := hu
    show Own.Fin p e below (Tj.setTop (mkF m 266 #[.val (.long q1), .second, .val (.long q2), .second, .val (.long q3), .second, .val (.long q4), .second, .val (.int p5), .val (.int p6), .val (.int (p5 &&& (7 : Int32))), .val (.ref oa), .val (.int nv), .val (.int wv), .val (.int pv), .val (.int lv), .val (.int (Int32.ofNat dN)), .unset, .unset, .unset, .unset, .unset, .unset, .unset] [])) _
    refine Own.go (fun t k => XS.iload Xj.here hx rfl (hb hby at_266) rfl k) ?_
    show Own.Fin p e below (Tj.setTop (mkF m 268 #[.val (.long q1), .second, .val (.long q2), .second, .val (.long q3), .second, .val (.long q4), .second, .val (.int p5), .val (.int p6), .val (.int (p5 &&& (7 : Int32))), .val (.ref oa), .val (.int nv), .val (.int wv), .val (.int pv), .val (.int lv), .val (.int (Int32.ofNat dN)), .unset, .unset, .unset, .unset, .unset, .unset, .unset] [(.int nv)])) _
    refine Own.newA Xj hx hZ (hw _ (List.mem_of_getElem? (i := 3) rfl)) ej (hb hby at_268) fx3 32 fx4 (by decide) (by decide) (by decide) ?_
    intro T1 h1 b1 k1 X1 e1 E1 gb1 V1
    have ge1 : n0 ≤ b1 := by rw [gb1]; exact Z0
    have Z1 : n0 ≤ h1.size := Nat.le_trans Z0 E1.1
    have O1 := O0.ext E1
    show Own.Fin p e below (T1.setTop (mkF m 270 #[.val (.long q1), .second, .val (.long q2), .second, .val (.long q3), .second, .val (.long q4), .second, .val (.int p5), .val (.int p6), .val (.int (p5 &&& (7 : Int32))), .val (.ref oa), .val (.int nv), .val (.int wv), .val (.int pv), .val (.int lv), .val (.int (Int32.ofNat dN)), .unset, .unset, .unset, .unset, .unset, .unset, .unset] [(.ref b1)])) _
    have Vt2 : Arv Z h1 b1 k1 .byte nv (tab N (fun _ => .int (0 : Int32))) (.int (0 : Int32)) := Arv.pad V1 (tab_nil N _)
    refine Own.go (fun t k => XS.astore X1.here hx rfl (hb hby at_270) rfl rfl (l' := #[.val (.long q1), .second, .val (.long q2), .second, .val (.long q3), .second, .val (.long q4), .second, .val (.int p5), .val (.int p6), .val (.int (p5 &&& (7 : Int32))), .val (.ref oa), .val (.int nv), .val (.int wv), .val (.int pv), .val (.int lv), .val (.int (Int32.ofNat dN)), .val (.ref b1), .unset, .unset, .unset, .unset, .unset, .unset]) rfl k) ?_
    show Own.Fin p e below (T1.setTop (mkF m 272 #[.val (.long q1), .second, .val (.long q2), .second, .val (.long q3), .second, .val (.long q4), .second, .val (.int p5), .val (.int p6), .val (.int (p5 &&& (7 : Int32))), .val (.ref oa), .val (.int nv), .val (.int wv), .val (.int pv), .val (.int lv), .val (.int (Int32.ofNat dN)), .val (.ref b1), .unset, .unset, .unset, .unset, .unset, .unset] [])) _
    refine Own.go (fun t k => XS.aload X1.here hx rfl (hb hby at_272) rfl rfl k) ?_
    show Own.Fin p e below (T1.setTop (mkF m 274 #[.val (.long q1), .second, .val (.long q2), .second, .val (.long q3), .second, .val (.long q4), .second, .val (.int p5), .val (.int p6), .val (.int (p5 &&& (7 : Int32))), .val (.ref oa), .val (.int nv), .val (.int wv), .val (.int pv), .val (.int lv), .val (.int (Int32.ofNat dN)), .val (.ref b1), .unset, .unset, .unset, .unset, .unset, .unset] [(.ref b1)])) _
    refine Own.go (fun t k => XS.iconst X1.here hx rfl (hb hby at_274) k) ?_
    show Own.Fin p e below (T1.setTop (mkF m 275 #[.val (.long q1), .second, .val (.long q2), .second, .val (.long q3), .second, .val (.long q4), .second, .val (.int p5), .val (.int p6), .val (.int (p5 &&& (7 : Int32))), .val (.ref oa), .val (.int nv), .val (.int wv), .val (.int pv), .val (.int lv), .val (.int (Int32.ofNat dN)), .val (.ref b1), .unset, .unset, .unset, .unset, .unset, .unset] [(.int (0 : Int32)), (.ref b1)])) _
    refine Own.go (fun t k => XS.lloadN X1.here hx rfl (hb hby at_275) rfl k) ?_
    show Own.Fin p e below (T1.setTop (mkF m 276 #[.val (.long q1), .second, .val (.long q2), .second, .val (.long q3), .second, .val (.long q4), .second, .val (.int p5), .val (.int p6), .val (.int (p5 &&& (7 : Int32))), .val (.ref oa), .val (.int nv), .val (.int wv), .val (.int pv), .val (.int lv), .val (.int (Int32.ofNat dN)), .val (.ref b1), .unset, .unset, .unset, .unset, .unset, .unset] [(.long q1), (.int (0 : Int32)), (.ref b1)])) _
    refine Own.cS X1 hx hZ hown (hw _ (List.mem_of_getElem? (i := 4) rfl)) (hw _ (List.mem_of_getElem? (i := 5) rfl)) (hw _ (List.mem_of_getElem? (i := 6) rfl)) (hw _ (List.mem_of_getElem? (i := 7) rfl)) (by decide) (rm1 l Z a0 hw [] b1 (0 : Int32) q1 k1 nv N 0 (fun _ => Value.int (0 : Int32)) h1 n0 Z1 Vt2 ge1 fx6 (by omega) rfl (by decide) (by omega)) (by decide) (W := 0) (by decide) (argsL := [(.ref b1), (.int (0 : Int32)), (.long q1)]) (rest := []) (by rw [hml]; rfl) (lenOf pd_1 rfl) rfl (Nat.le_of_eq rfl) (hb hby at_276) e1 (by decide) (by decide) ?_
    intro T3 L3 v3 X3 hQ3
    obtain ⟨g3, rfl, N3q, K3q, V3, P3⟩ := hQ3
    have N3 := Fr.app N0 N3q
    have Z3 : n0 ≤ T3.heap.size := Nat.le_trans Z1 K3q.1
    have O3 := O1.keep K3q (allS ge1 all0)
    show Own.Fin p e below (T3.setTop (mkF m 279 #[.val (.long q1), .second, .val (.long q2), .second, .val (.long q3), .second, .val (.long q4), .second, .val (.int p5), .val (.int p6), .val (.int (p5 &&& (7 : Int32))), .val (.ref oa), .val (.int nv), .val (.int wv), .val (.int pv), .val (.int lv), .val (.int (Int32.ofNat dN)), .val (.ref b1), .unset, .unset, .unset, .unset, .unset, .unset] [])) _
    refine Own.go (fun t k => XS.aload X3.here hx rfl (hb hby at_279) rfl rfl k) ?_
    show Own.Fin p e below (T3.setTop (mkF m 281 #[.val (.long q1), .second, .val (.long q2), .second, .val (.long q3), .second, .val (.long q4), .second, .val (.int p5), .val (.int p6), .val (.int (p5 &&& (7 : Int32))), .val (.ref oa), .val (.int nv), .val (.int wv), .val (.int pv), .val (.int lv), .val (.int (Int32.ofNat dN)), .val (.ref b1), .unset, .unset, .unset, .unset, .unset, .unset] [(.ref b1)])) _
    refine Own.go (fun t k => XS.bipush X3.here hx rfl (hb hby at_281) k) ?_
    show Own.Fin p e below (T3.setTop (mkF m 283 #[.val (.long q1), .second, .val (.long q2), .second, .val (.long q3), .second, .val (.long q4), .second, .val (.int p5), .val (.int p6), .val (.int (p5 &&& (7 : Int32))), .val (.ref oa), .val (.int nv), .val (.int wv), .val (.int pv), .val (.int lv), .val (.int (Int32.ofNat dN)), .val (.ref b1), .unset, .unset, .unset, .unset, .unset, .unset] [(.int (8 : Int32)), (.ref b1)])) _
    refine Own.go (fun t k => XS.lloadN X3.here hx rfl (hb hby at_283) rfl k) ?_
    show Own.Fin p e below (T3.setTop (mkF m 284 #[.val (.long q1), .second, .val (.long q2), .second, .val (.long q3), .second, .val (.long q4), .second, .val (.int p5), .val (.int p6), .val (.int (p5 &&& (7 : Int32))), .val (.ref oa), .val (.int nv), .val (.int wv), .val (.int pv), .val (.int lv), .val (.int (Int32.ofNat dN)), .val (.ref b1), .unset, .unset, .unset, .unset, .unset, .unset] [(.long q2), (.int (8 : Int32)), (.ref b1)])) _
    refine Own.cS X3 hx hZ hown (hw _ (List.mem_of_getElem? (i := 4) rfl)) (hw _ (List.mem_of_getElem? (i := 5) rfl)) (hw _ (List.mem_of_getElem? (i := 6) rfl)) (hw _ (List.mem_of_getElem? (i := 7) rfl)) (by decide) (rm1 l Z a0 hw [] b1 (8 : Int32) q2 k1 nv N 8 g3 T3.heap n0 Z3 V3 ge1 fx6 (by omega) rfl (by decide) (by omega)) (by decide) (W := 0) (by decide) (argsL := [(.ref b1), (.int (8 : Int32)), (.long q2)]) (rest := []) (by rw [hml]; rfl) (lenOf pd_1 rfl) rfl (Nat.le_of_eq rfl) (hb hby at_284) rfl (by decide) (by decide) ?_
    intro T4 L4 v4 X4 hQ4
    obtain ⟨g4, rfl, N4q, K4q, V4, P4⟩ := hQ4
    have N4 := Fr.app N3 N4q
    have Z4 : n0 ≤ T4.heap.size := Nat.le_trans Z3 K4q.1
    have O4 := O3.keep K4q (allS ge1 all0)
    show Own.Fin p e below (T4.setTop (mkF m 287 #[.val (.long q1), .second, .val (.long q2), .second, .val (.long q3), .second, .val (.long q4), .second, .val (.int p5), .val (.int p6), .val (.int (p5 &&& (7 : Int32))), .val (.ref oa), .val (.int nv), .val (.int wv), .val (.int pv), .val (.int lv), .val (.int (Int32.ofNat dN)), .val (.ref b1), .unset, .unset, .unset, .unset, .unset, .unset] [])) _
    refine Own.go (fun t k => XS.aload X4.here hx rfl (hb hby at_287) rfl rfl k) ?_
    show Own.Fin p e below (T4.setTop (mkF m 289 #[.val (.long q1), .second, .val (.long q2), .second, .val (.long q3), .second, .val (.long q4), .second, .val (.int p5), .val (.int p6), .val (.int (p5 &&& (7 : Int32))), .val (.ref oa), .val (.int nv), .val (.int wv), .val (.int pv), .val (.int lv), .val (.int (Int32.ofNat dN)), .val (.ref b1), .unset, .unset, .unset, .unset, .unset, .unset] [(.ref b1)])) _
    refine Own.go (fun t k => XS.bipush X4.here hx rfl (hb hby at_289) k) ?_
    show Own.Fin p e below (T4.setTop (mkF m 291 #[.val (.long q1), .second, .val (.long q2), .second, .val (.long q3), .second, .val (.long q4), .second, .val (.int p5), .val (.int p6), .val (.int (p5 &&& (7 : Int32))), .val (.ref oa), .val (.int nv), .val (.int wv), .val (.int pv), .val (.int lv), .val (.int (Int32.ofNat dN)), .val (.ref b1), .unset, .unset, .unset, .unset, .unset, .unset] [(.int (16 : Int32)), (.ref b1)])) _
    refine Own.go (fun t k => XS.lload X4.here hx rfl (hb hby at_291) rfl k) ?_
    show Own.Fin p e below (T4.setTop (mkF m 293 #[.val (.long q1), .second, .val (.long q2), .second, .val (.long q3), .second, .val (.long q4), .second, .val (.int p5), .val (.int p6), .val (.int (p5 &&& (7 : Int32))), .val (.ref oa), .val (.int nv), .val (.int wv), .val (.int pv), .val (.int lv), .val (.int (Int32.ofNat dN)), .val (.ref b1), .unset, .unset, .unset, .unset, .unset, .unset] [(.long q3), (.int (16 : Int32)), (.ref b1)])) _
    refine Own.cS X4 hx hZ hown (hw _ (List.mem_of_getElem? (i := 4) rfl)) (hw _ (List.mem_of_getElem? (i := 5) rfl)) (hw _ (List.mem_of_getElem? (i := 6) rfl)) (hw _ (List.mem_of_getElem? (i := 7) rfl)) (by decide) (rm1 l Z a0 hw [] b1 (16 : Int32) q3 k1 nv N 16 g4 T4.heap n0 Z4 V4 ge1 fx6 (by omega) rfl (by decide) (by omega)) (by decide) (W := 0) (by decide) (argsL := [(.ref b1), (.int (16 : Int32)), (.long q3)]) (rest := []) (by rw [hml]; rfl) (lenOf pd_1 rfl) rfl (Nat.le_of_eq rfl) (hb hby at_293) rfl (by decide) (by decide) ?_
    intro T5 L5 v5 X5 hQ5
    obtain ⟨g5, rfl, N5q, K5q, V5, P5⟩ := hQ5
    have N5 := Fr.app N4 N5q
    have Z5 : n0 ≤ T5.heap.size := Nat.le_trans Z4 K5q.1
    have O5 := O4.keep K5q (allS ge1 all0)
    show Own.Fin p e below (T5.setTop (mkF m 296 #[.val (.long q1), .second, .val (.long q2), .second, .val (.long q3), .second, .val (.long q4), .second, .val (.int p5), .val (.int p6), .val (.int (p5 &&& (7 : Int32))), .val (.ref oa), .val (.int nv), .val (.int wv), .val (.int pv), .val (.int lv), .val (.int (Int32.ofNat dN)), .val (.ref b1), .unset, .unset, .unset, .unset, .unset, .unset] [])) _
    refine Own.go (fun t k => XS.iload X5.here hx rfl (hb hby at_296) rfl k) ?_
    show Own.Fin p e below (T5.setTop (mkF m 298 #[.val (.long q1), .second, .val (.long q2), .second, .val (.long q3), .second, .val (.long q4), .second, .val (.int p5), .val (.int p6), .val (.int (p5 &&& (7 : Int32))), .val (.ref oa), .val (.int nv), .val (.int wv), .val (.int pv), .val (.int lv), .val (.int (Int32.ofNat dN)), .val (.ref b1), .unset, .unset, .unset, .unset, .unset, .unset] [(.int nv)])) _
    refine Own.go (fun t k => XS.bipush X5.here hx rfl (hb hby at_298) k) ?_
    show Own.Fin p e below (T5.setTop (mkF m 300 #[.val (.long q1), .second, .val (.long q2), .second, .val (.long q3), .second, .val (.long q4), .second, .val (.int p5), .val (.int p6), .val (.int (p5 &&& (7 : Int32))), .val (.ref oa), .val (.int nv), .val (.int wv), .val (.int pv), .val (.int lv), .val (.int (Int32.ofNat dN)), .val (.ref b1), .unset, .unset, .unset, .unset, .unset, .unset] [(.int (32 : Int32)), (.int nv)])) _
    by_cases hc300_5 : nv = (32 : Int32)
    · skip
      refine Own.go (fun t k => XS.icmpNo X5.here hx rfl (hb hby at_300) rfl (teq hc300_5).2 k) ?_
      show Own.Fin p e below (T5.setTop (mkF m 303 #[.val (.long q1), .second, .val (.long q2), .second, .val (.long q3), .second, .val (.long q4), .second, .val (.int p5), .val (.int p6), .val (.int (p5 &&& (7 : Int32))), .val (.ref oa), .val (.int nv), .val (.int wv), .val (.int pv), .val (.int lv), .val (.int (Int32.ofNat dN)), .val (.ref b1), .unset, .unset, .unset, .unset, .unset, .unset] [])) _
      refine Own.go (fun t k => XS.aload X5.here hx rfl (hb hby at_303) rfl rfl k) ?_
      show Own.Fin p e below (T5.setTop (mkF m 305 #[.val (.long q1), .second, .val (.long q2), .second, .val (.long q3), .second, .val (.long q4), .second, .val (.int p5), .val (.int p6), .val (.int (p5 &&& (7 : Int32))), .val (.ref oa), .val (.int nv), .val (.int wv), .val (.int pv), .val (.int lv), .val (.int (Int32.ofNat dN)), .val (.ref b1), .unset, .unset, .unset, .unset, .unset, .unset] [(.ref b1)])) _
      refine Own.go (fun t k => XS.bipush X5.here hx rfl (hb hby at_305) k) ?_
      show Own.Fin p e below (T5.setTop (mkF m 307 #[.val (.long q1), .second, .val (.long q2), .second, .val (.long q3), .second, .val (.long q4), .second, .val (.int p5), .val (.int p6), .val (.int (p5 &&& (7 : Int32))), .val (.ref oa), .val (.int nv), .val (.int wv), .val (.int pv), .val (.int lv), .val (.int (Int32.ofNat dN)), .val (.ref b1), .unset, .unset, .unset, .unset, .unset, .unset] [(.int (24 : Int32)), (.ref b1)])) _
      refine Own.go (fun t k => XS.lload X5.here hx rfl (hb hby at_307) rfl k) ?_
      show Own.Fin p e below (T5.setTop (mkF m 309 #[.val (.long q1), .second, .val (.long q2), .second, .val (.long q3), .second, .val (.long q4), .second, .val (.int p5), .val (.int p6), .val (.int (p5 &&& (7 : Int32))), .val (.ref oa), .val (.int nv), .val (.int wv), .val (.int pv), .val (.int lv), .val (.int (Int32.ofNat dN)), .val (.ref b1), .unset, .unset, .unset, .unset, .unset, .unset] [(.long q4), (.int (24 : Int32)), (.ref b1)])) _
      refine Own.cS X5 hx hZ hown (hw _ (List.mem_of_getElem? (i := 4) rfl)) (hw _ (List.mem_of_getElem? (i := 5) rfl)) (hw _ (List.mem_of_getElem? (i := 6) rfl)) (hw _ (List.mem_of_getElem? (i := 7) rfl)) (by decide) (rm1 l Z a0 hw [] b1 (24 : Int32) q4 k1 nv N 24 g5 T5.heap n0 Z5 V5 ge1 fx6 (by omega) rfl (by decide) (by have := fx12 hc300_5; omega)) (by decide) (W := 0) (by decide) (argsL := [(.ref b1), (.int (24 : Int32)), (.long q4)]) (rest := []) (by rw [hml]; rfl) (lenOf pd_1 rfl) rfl (Nat.le_of_eq rfl) (hb hby at_309) rfl (by decide) (by decide) ?_
      intro T7 L7 v7 X7 hQ7
      obtain ⟨g7, rfl, N7q, K7q, V7, P7⟩ := hQ7
      have N7 := Fr.app N5 N7q
      have Z7 : n0 ≤ T7.heap.size := Nat.le_trans Z5 K7q.1
      have O7 := O5.keep K7q (allS ge1 all0)
      show Own.Fin p e below (T7.setTop (mkF m 312 #[.val (.long q1), .second, .val (.long q2), .second, .val (.long q3), .second, .val (.long q4), .second, .val (.int p5), .val (.int p6), .val (.int (p5 &&& (7 : Int32))), .val (.ref oa), .val (.int nv), .val (.int wv), .val (.int pv), .val (.int lv), .val (.int (Int32.ofNat dN)), .val (.ref b1), .unset, .unset, .unset, .unset, .unset, .unset] [])) _
      refine Own.go (fun t k => XS.aload X7.here hx rfl (hb hby at_312) rfl rfl k) ?_
      show Own.Fin p e below (T7.setTop (mkF m 314 #[.val (.long q1), .second, .val (.long q2), .second, .val (.long q3), .second, .val (.long q4), .second, .val (.int p5), .val (.int p6), .val (.int (p5 &&& (7 : Int32))), .val (.ref oa), .val (.int nv), .val (.int wv), .val (.int pv), .val (.int lv), .val (.int (Int32.ofNat dN)), .val (.ref b1), .unset, .unset, .unset, .unset, .unset, .unset] [(.ref oa)])) _
      refine Own.go (fun t k => XS.aload X7.here hx rfl (hb hby at_314) rfl rfl k) ?_
      show Own.Fin p e below (T7.setTop (mkF m 316 #[.val (.long q1), .second, .val (.long q2), .second, .val (.long q3), .second, .val (.long q4), .second, .val (.int p5), .val (.int p6), .val (.int (p5 &&& (7 : Int32))), .val (.ref oa), .val (.int nv), .val (.int wv), .val (.int pv), .val (.int lv), .val (.int (Int32.ofNat dN)), .val (.ref b1), .unset, .unset, .unset, .unset, .unset, .unset] [(.ref b1), (.ref oa)])) _
      have hNv : N = 32 := fx12 hc300_5
      have VB8 : Arv Z T7.heap b1 k1 .byte nv (tab N (fun k => Value.int (sb ((bys q1 q2 q3 q4) k)))) (.int (0 : Int32)) := Arv.pad V7 (tab_pad fun i hi => (bys_32 P3 P4 P5 P7 i (by rw [hNv] at hi; exact hi)).symm)
      refine Own.cV X7 hx hZ hown (hw _ (List.mem_of_getElem? (i := 8) rfl)) (hw _ (List.mem_of_getElem? (i := 9) rfl)) (notFace_of_selects (args := #[]) (mvT hZ (hw _ (List.mem_of_getElem? (i := 11) rfl)))) (hw _ (List.mem_of_getElem? (i := 11) rfl)) (hw _ (List.mem_of_getElem? (i := 10) rfl)) (hw _ (List.mem_of_getElem? (i := 1) rfl)) (hw _ (List.mem_of_getElem? (i := 12) rfl)) (by decide) (rm2 l Z a0 hw [] oa b1 wv nv pv lv wN uN N dN pN (bys q1 q2 q3 q4) k1 T7.heap n0 Z7 O7 E0 F_w F_n F_p F_ls VB8 hP (bys_lt _ _ _ _)) (by decide) (W := 0) (by decide) (argsL := [(.ref b1)]) (rest := []) (E0.ext O7.2) (by rw [hml]; rfl) (lenOf pd_2 rfl) rfl (Nat.le_of_eq rfl) (hb hby at_316) rfl (by decide) (by decide) ?_
      intro T8 L8 v8 X8 hQ8
      obtain ⟨bS, kS, gS, geS, rfl, N8q, Z8, VS, hgS⟩ := hQ8
      have N8 := Fr.app N7 N8q
      show Own.Fin p e below (T8.setTop (mkF m 319 #[.val (.long q1), .second, .val (.long q2), .second, .val (.long q3), .second, .val (.long q4), .second, .val (.int p5), .val (.int p6), .val (.int (p5 &&& (7 : Int32))), .val (.ref oa), .val (.int nv), .val (.int wv), .val (.int pv), .val (.int lv), .val (.int (Int32.ofNat dN)), .val (.ref b1), .unset, .unset, .unset, .unset, .unset, .unset] [(.ref bS)])) _
      refine Own.go (fun t k => XS.astore X8.here hx rfl (hb hby at_319) rfl rfl (l' := #[.val (.long q1), .second, .val (.long q2), .second, .val (.long q3), .second, .val (.long q4), .second, .val (.int p5), .val (.int p6), .val (.int (p5 &&& (7 : Int32))), .val (.ref oa), .val (.int nv), .val (.int wv), .val (.int pv), .val (.int lv), .val (.int (Int32.ofNat dN)), .val (.ref b1), .val (.ref bS), .unset, .unset, .unset, .unset, .unset]) rfl k) ?_
      show Own.Fin p e below (T8.setTop (mkF m 321 #[.val (.long q1), .second, .val (.long q2), .second, .val (.long q3), .second, .val (.long q4), .second, .val (.int p5), .val (.int p6), .val (.int (p5 &&& (7 : Int32))), .val (.ref oa), .val (.int nv), .val (.int wv), .val (.int pv), .val (.int lv), .val (.int (Int32.ofNat dN)), .val (.ref b1), .val (.ref bS), .unset, .unset, .unset, .unset, .unset] [])) _
      refine Own.go (fun t k => XS.aload X8.here hx rfl (hb hby at_321) rfl rfl k) ?_
      show Own.Fin p e below (T8.setTop (mkF m 323 #[.val (.long q1), .second, .val (.long q2), .second, .val (.long q3), .second, .val (.long q4), .second, .val (.int p5), .val (.int p6), .val (.int (p5 &&& (7 : Int32))), .val (.ref oa), .val (.int nv), .val (.int wv), .val (.int pv), .val (.int lv), .val (.int (Int32.ofNat dN)), .val (.ref b1), .val (.ref bS), .unset, .unset, .unset, .unset, .unset] [(.ref bS)])) _
      refine Own.alen X8 hx hZ rfl VS (hb hby at_323) ?_
      show Own.Fin p e below (T8.setTop (mkF m 324 #[.val (.long q1), .second, .val (.long q2), .second, .val (.long q3), .second, .val (.long q4), .second, .val (.int p5), .val (.int p6), .val (.int (p5 &&& (7 : Int32))), .val (.ref oa), .val (.int nv), .val (.int wv), .val (.int pv), .val (.int lv), .val (.int (Int32.ofNat dN)), .val (.ref b1), .val (.ref bS), .unset, .unset, .unset, .unset, .unset] [(.int pv)])) _
      refine Own.go (fun t k => XS.iload X8.here hx rfl (hb hby at_324) rfl k) ?_
      show Own.Fin p e below (T8.setTop (mkF m 326 #[.val (.long q1), .second, .val (.long q2), .second, .val (.long q3), .second, .val (.long q4), .second, .val (.int p5), .val (.int p6), .val (.int (p5 &&& (7 : Int32))), .val (.ref oa), .val (.int nv), .val (.int wv), .val (.int pv), .val (.int lv), .val (.int (Int32.ofNat dN)), .val (.ref b1), .val (.ref bS), .unset, .unset, .unset, .unset, .unset] [(.int pv), (.int pv)])) _
      have hc326_8 : pv = pv := rfl
      refine Own.go (fun t k => XS.icmpYes X8.here hx rfl (pc0 := 326) (pc' := 331) rfl (hb hby at_326) rfl (teq hc326_8).1 (by decide) (by decide) k) ?_
      show Own.Fin p e below (T8.setTop (mkF m 331 #[.val (.long q1), .second, .val (.long q2), .second, .val (.long q3), .second, .val (.long q4), .second, .val (.int p5), .val (.int p6), .val (.int (p5 &&& (7 : Int32))), .val (.ref oa), .val (.int nv), .val (.int wv), .val (.int pv), .val (.int lv), .val (.int (Int32.ofNat dN)), .val (.ref b1), .val (.ref bS), .unset, .unset, .unset, .unset, .unset] [])) _
      refine Own.go (fun t k => XS.iconst X8.here hx rfl (hb hby at_331) k) ?_
      show Own.Fin p e below (T8.setTop (mkF m 332 #[.val (.long q1), .second, .val (.long q2), .second, .val (.long q3), .second, .val (.long q4), .second, .val (.int p5), .val (.int p6), .val (.int (p5 &&& (7 : Int32))), .val (.ref oa), .val (.int nv), .val (.int wv), .val (.int pv), .val (.int lv), .val (.int (Int32.ofNat dN)), .val (.ref b1), .val (.ref bS), .unset, .unset, .unset, .unset, .unset] [(.int (1 : Int32))])) _
      refine Own.go (fun t k => XS.iload X8.here hx rfl (hb hby at_332) rfl k) ?_
      show Own.Fin p e below (T8.setTop (mkF m 334 #[.val (.long q1), .second, .val (.long q2), .second, .val (.long q3), .second, .val (.long q4), .second, .val (.int p5), .val (.int p6), .val (.int (p5 &&& (7 : Int32))), .val (.ref oa), .val (.int nv), .val (.int wv), .val (.int pv), .val (.int lv), .val (.int (Int32.ofNat dN)), .val (.ref b1), .val (.ref bS), .unset, .unset, .unset, .unset, .unset] [(.int wv), (.int (1 : Int32))])) _
      refine Own.go (fun t k => XS.ishl X8.here hx rfl (hb hby at_334) rfl k) ?_
      show Own.Fin p e below (T8.setTop (mkF m 335 #[.val (.long q1), .second, .val (.long q2), .second, .val (.long q3), .second, .val (.long q4), .second, .val (.int p5), .val (.int p6), .val (.int (p5 &&& (7 : Int32))), .val (.ref oa), .val (.int nv), .val (.int wv), .val (.int pv), .val (.int lv), .val (.int (Int32.ofNat dN)), .val (.ref b1), .val (.ref bS), .unset, .unset, .unset, .unset, .unset] [(.int (((1 : Int32) <<< (wv &&& 31))))])) _
      refine Own.go (fun t k => XS.iconst X8.here hx rfl (hb hby at_335) k) ?_
      show Own.Fin p e below (T8.setTop (mkF m 336 #[.val (.long q1), .second, .val (.long q2), .second, .val (.long q3), .second, .val (.long q4), .second, .val (.int p5), .val (.int p6), .val (.int (p5 &&& (7 : Int32))), .val (.ref oa), .val (.int nv), .val (.int wv), .val (.int pv), .val (.int lv), .val (.int (Int32.ofNat dN)), .val (.ref b1), .val (.ref bS), .unset, .unset, .unset, .unset, .unset] [(.int (1 : Int32)), (.int (((1 : Int32) <<< (wv &&& 31))))])) _
      refine Own.go (fun t k => XS.isub X8.here hx rfl (hb hby at_336) rfl k) ?_
      show Own.Fin p e below (T8.setTop (mkF m 337 #[.val (.long q1), .second, .val (.long q2), .second, .val (.long q3), .second, .val (.long q4), .second, .val (.int p5), .val (.int p6), .val (.int (p5 &&& (7 : Int32))), .val (.ref oa), .val (.int nv), .val (.int wv), .val (.int pv), .val (.int lv), .val (.int (Int32.ofNat dN)), .val (.ref b1), .val (.ref bS), .unset, .unset, .unset, .unset, .unset] [(.int ((((1 : Int32) <<< (wv &&& 31))) - (1 : Int32)))])) _
      rw [show ((((1 : Int32) <<< (wv &&& 31))) - (1 : Int32)) = (Int32.ofNat (2 ^ wN - 1)) from fx7]
      show Own.Fin p e below (T8.setTop (mkF m 337 #[.val (.long q1), .second, .val (.long q2), .second, .val (.long q3), .second, .val (.long q4), .second, .val (.int p5), .val (.int p6), .val (.int (p5 &&& (7 : Int32))), .val (.ref oa), .val (.int nv), .val (.int wv), .val (.int pv), .val (.int lv), .val (.int (Int32.ofNat dN)), .val (.ref b1), .val (.ref bS), .unset, .unset, .unset, .unset, .unset] [(.int (Int32.ofNat (2 ^ wN - 1)))])) _
      refine Own.go (fun t k => XS.istore X8.here hx rfl (hb hby at_337) rfl (l' := #[.val (.long q1), .second, .val (.long q2), .second, .val (.long q3), .second, .val (.long q4), .second, .val (.int p5), .val (.int p6), .val (.int (p5 &&& (7 : Int32))), .val (.ref oa), .val (.int nv), .val (.int wv), .val (.int pv), .val (.int lv), .val (.int (Int32.ofNat dN)), .val (.ref b1), .val (.ref bS), .val (.int (Int32.ofNat (2 ^ wN - 1))), .unset, .unset, .unset, .unset]) rfl k) ?_
      show Own.Fin p e below (T8.setTop (mkF m 339 #[.val (.long q1), .second, .val (.long q2), .second, .val (.long q3), .second, .val (.long q4), .second, .val (.int p5), .val (.int p6), .val (.int (p5 &&& (7 : Int32))), .val (.ref oa), .val (.int nv), .val (.int wv), .val (.int pv), .val (.int lv), .val (.int (Int32.ofNat dN)), .val (.ref b1), .val (.ref bS), .val (.int (Int32.ofNat (2 ^ wN - 1))), .unset, .unset, .unset, .unset] [])) _
      refine Own.go (fun t k => XS.lloadN X8.here hx rfl (hb hby at_339) rfl k) ?_
      show Own.Fin p e below (T8.setTop (mkF m 340 #[.val (.long q1), .second, .val (.long q2), .second, .val (.long q3), .second, .val (.long q4), .second, .val (.int p5), .val (.int p6), .val (.int (p5 &&& (7 : Int32))), .val (.ref oa), .val (.int nv), .val (.int wv), .val (.int pv), .val (.int lv), .val (.int (Int32.ofNat dN)), .val (.ref b1), .val (.ref bS), .val (.int (Int32.ofNat (2 ^ wN - 1))), .unset, .unset, .unset, .unset] [(.long q1)])) _
      refine Own.go (fun t k => XS.iload X8.here hx rfl (hb hby at_340) rfl k) ?_
      show Own.Fin p e below (T8.setTop (mkF m 342 #[.val (.long q1), .second, .val (.long q2), .second, .val (.long q3), .second, .val (.long q4), .second, .val (.int p5), .val (.int p6), .val (.int (p5 &&& (7 : Int32))), .val (.ref oa), .val (.int nv), .val (.int wv), .val (.int pv), .val (.int lv), .val (.int (Int32.ofNat dN)), .val (.ref b1), .val (.ref bS), .val (.int (Int32.ofNat (2 ^ wN - 1))), .unset, .unset, .unset, .unset] [(.int wv), (.long q1)])) _
      refine Own.cS X8 hx hZ hown (hw _ (List.mem_of_getElem? (i := 26) rfl)) (hw _ (List.mem_of_getElem? (i := 27) rfl)) (hw _ (List.mem_of_getElem? (i := 6) rfl)) (hw _ (List.mem_of_getElem? (i := 28) rfl)) (by decide) (rm4 l Z a0 hw [] q1 wv T8.heap n0 Z8 ) (by decide) (W := 0) (by decide) (argsL := [(.long q1), (.int wv)]) (rest := []) (by rw [hml]; rfl) (lenOf pd_3 rfl) rfl (Nat.le_of_eq rfl) (hb hby at_342) rfl (by decide) (by decide) ?_
      intro T10 L10 v10 X10 hQ10
      obtain ⟨rfl, N10q, e10⟩ := hQ10
      have N10 := Fr.app N8 N10q
      show Own.Fin p e below (T10.setTop (mkF m 345 #[.val (.long q1), .second, .val (.long q2), .second, .val (.long q3), .second, .val (.long q4), .second, .val (.int p5), .val (.int p6), .val (.int (p5 &&& (7 : Int32))), .val (.ref oa), .val (.int nv), .val (.int wv), .val (.int pv), .val (.int lv), .val (.int (Int32.ofNat dN)), .val (.ref b1), .val (.ref bS), .val (.int (Int32.ofNat (2 ^ wN - 1))), .unset, .unset, .unset, .unset] [(.int (F_fs q1 wv))])) _
      refine Own.go (fun t k => XS.lloadN X10.here hx rfl (hb hby at_345) rfl k) ?_
      show Own.Fin p e below (T10.setTop (mkF m 346 #[.val (.long q1), .second, .val (.long q2), .second, .val (.long q3), .second, .val (.long q4), .second, .val (.int p5), .val (.int p6), .val (.int (p5 &&& (7 : Int32))), .val (.ref oa), .val (.int nv), .val (.int wv), .val (.int pv), .val (.int lv), .val (.int (Int32.ofNat dN)), .val (.ref b1), .val (.ref bS), .val (.int (Int32.ofNat (2 ^ wN - 1))), .unset, .unset, .unset, .unset] [(.long q2), (.int (F_fs q1 wv))])) _
      refine Own.go (fun t k => XS.iload X10.here hx rfl (hb hby at_346) rfl k) ?_
      show Own.Fin p e below (T10.setTop (mkF m 348 #[.val (.long q1), .second, .val (.long q2), .second, .val (.long q3), .second, .val (.long q4), .second, .val (.int p5), .val (.int p6), .val (.int (p5 &&& (7 : Int32))), .val (.ref oa), .val (.int nv), .val (.int wv), .val (.int pv), .val (.int lv), .val (.int (Int32.ofNat dN)), .val (.ref b1), .val (.ref bS), .val (.int (Int32.ofNat (2 ^ wN - 1))), .unset, .unset, .unset, .unset] [(.int wv), (.long q2), (.int (F_fs q1 wv))])) _
      refine Own.cS X10 hx hZ hown (hw _ (List.mem_of_getElem? (i := 26) rfl)) (hw _ (List.mem_of_getElem? (i := 27) rfl)) (hw _ (List.mem_of_getElem? (i := 6) rfl)) (hw _ (List.mem_of_getElem? (i := 28) rfl)) (by decide) (rm4 l Z a0 hw [] q2 wv T8.heap n0 Z8 ) (by decide) (W := 1) (by decide) (argsL := [(.long q2), (.int wv)]) (rest := [(.int (F_fs q1 wv))]) (by rw [hml]; rfl) (lenOf pd_3 rfl) rfl (Nat.le_of_eq rfl) (hb hby at_348) e10 (by decide) (by decide) ?_
      intro T11 L11 v11 X11 hQ11
      obtain ⟨rfl, N11q, e11⟩ := hQ11
      have N11 := Fr.app N10 N11q
      show Own.Fin p e below (T11.setTop (mkF m 351 #[.val (.long q1), .second, .val (.long q2), .second, .val (.long q3), .second, .val (.long q4), .second, .val (.int p5), .val (.int p6), .val (.int (p5 &&& (7 : Int32))), .val (.ref oa), .val (.int nv), .val (.int wv), .val (.int pv), .val (.int lv), .val (.int (Int32.ofNat dN)), .val (.ref b1), .val (.ref bS), .val (.int (Int32.ofNat (2 ^ wN - 1))), .unset, .unset, .unset, .unset] [(.int (F_fs q2 wv)), (.int (F_fs q1 wv))])) _
      refine Own.go (fun t k => XS.iadd X11.here hx rfl (hb hby at_351) rfl k) ?_
      show Own.Fin p e below (T11.setTop (mkF m 352 #[.val (.long q1), .second, .val (.long q2), .second, .val (.long q3), .second, .val (.long q4), .second, .val (.int p5), .val (.int p6), .val (.int (p5 &&& (7 : Int32))), .val (.ref oa), .val (.int nv), .val (.int wv), .val (.int pv), .val (.int lv), .val (.int (Int32.ofNat dN)), .val (.ref b1), .val (.ref bS), .val (.int (Int32.ofNat (2 ^ wN - 1))), .unset, .unset, .unset, .unset] [(.int ((F_fs q1 wv) + (F_fs q2 wv)))])) _
      refine Own.go (fun t k => XS.lload X11.here hx rfl (hb hby at_352) rfl k) ?_
      show Own.Fin p e below (T11.setTop (mkF m 354 #[.val (.long q1), .second, .val (.long q2), .second, .val (.long q3), .second, .val (.long q4), .second, .val (.int p5), .val (.int p6), .val (.int (p5 &&& (7 : Int32))), .val (.ref oa), .val (.int nv), .val (.int wv), .val (.int pv), .val (.int lv), .val (.int (Int32.ofNat dN)), .val (.ref b1), .val (.ref bS), .val (.int (Int32.ofNat (2 ^ wN - 1))), .unset, .unset, .unset, .unset] [(.long q3), (.int ((F_fs q1 wv) + (F_fs q2 wv)))])) _
      refine Own.go (fun t k => XS.iload X11.here hx rfl (hb hby at_354) rfl k) ?_
      show Own.Fin p e below (T11.setTop (mkF m 356 #[.val (.long q1), .second, .val (.long q2), .second, .val (.long q3), .second, .val (.long q4), .second, .val (.int p5), .val (.int p6), .val (.int (p5 &&& (7 : Int32))), .val (.ref oa), .val (.int nv), .val (.int wv), .val (.int pv), .val (.int lv), .val (.int (Int32.ofNat dN)), .val (.ref b1), .val (.ref bS), .val (.int (Int32.ofNat (2 ^ wN - 1))), .unset, .unset, .unset, .unset] [(.int wv), (.long q3), (.int ((F_fs q1 wv) + (F_fs q2 wv)))])) _
      refine Own.cS X11 hx hZ hown (hw _ (List.mem_of_getElem? (i := 26) rfl)) (hw _ (List.mem_of_getElem? (i := 27) rfl)) (hw _ (List.mem_of_getElem? (i := 6) rfl)) (hw _ (List.mem_of_getElem? (i := 28) rfl)) (by decide) (rm4 l Z a0 hw [] q3 wv T8.heap n0 Z8 ) (by decide) (W := 1) (by decide) (argsL := [(.long q3), (.int wv)]) (rest := [(.int ((F_fs q1 wv) + (F_fs q2 wv)))]) (by rw [hml]; rfl) (lenOf pd_3 rfl) rfl (Nat.le_of_eq rfl) (hb hby at_356) e11 (by decide) (by decide) ?_
      intro T12 L12 v12 X12 hQ12
      obtain ⟨rfl, N12q, e12⟩ := hQ12
      have N12 := Fr.app N11 N12q
      show Own.Fin p e below (T12.setTop (mkF m 359 #[.val (.long q1), .second, .val (.long q2), .second, .val (.long q3), .second, .val (.long q4), .second, .val (.int p5), .val (.int p6), .val (.int (p5 &&& (7 : Int32))), .val (.ref oa), .val (.int nv), .val (.int wv), .val (.int pv), .val (.int lv), .val (.int (Int32.ofNat dN)), .val (.ref b1), .val (.ref bS), .val (.int (Int32.ofNat (2 ^ wN - 1))), .unset, .unset, .unset, .unset] [(.int (F_fs q3 wv)), (.int ((F_fs q1 wv) + (F_fs q2 wv)))])) _
      refine Own.go (fun t k => XS.iadd X12.here hx rfl (hb hby at_359) rfl k) ?_
      show Own.Fin p e below (T12.setTop (mkF m 360 #[.val (.long q1), .second, .val (.long q2), .second, .val (.long q3), .second, .val (.long q4), .second, .val (.int p5), .val (.int p6), .val (.int (p5 &&& (7 : Int32))), .val (.ref oa), .val (.int nv), .val (.int wv), .val (.int pv), .val (.int lv), .val (.int (Int32.ofNat dN)), .val (.ref b1), .val (.ref bS), .val (.int (Int32.ofNat (2 ^ wN - 1))), .unset, .unset, .unset, .unset] [(.int (((F_fs q1 wv) + (F_fs q2 wv)) + (F_fs q3 wv)))])) _
      refine Own.go (fun t k => XS.iload X12.here hx rfl (hb hby at_360) rfl k) ?_
      show Own.Fin p e below (T12.setTop (mkF m 362 #[.val (.long q1), .second, .val (.long q2), .second, .val (.long q3), .second, .val (.long q4), .second, .val (.int p5), .val (.int p6), .val (.int (p5 &&& (7 : Int32))), .val (.ref oa), .val (.int nv), .val (.int wv), .val (.int pv), .val (.int lv), .val (.int (Int32.ofNat dN)), .val (.ref b1), .val (.ref bS), .val (.int (Int32.ofNat (2 ^ wN - 1))), .unset, .unset, .unset, .unset] [(.int nv), (.int (((F_fs q1 wv) + (F_fs q2 wv)) + (F_fs q3 wv)))])) _
      refine Own.go (fun t k => XS.bipush X12.here hx rfl (hb hby at_362) k) ?_
      show Own.Fin p e below (T12.setTop (mkF m 364 #[.val (.long q1), .second, .val (.long q2), .second, .val (.long q3), .second, .val (.long q4), .second, .val (.int p5), .val (.int p6), .val (.int (p5 &&& (7 : Int32))), .val (.ref oa), .val (.int nv), .val (.int wv), .val (.int pv), .val (.int lv), .val (.int (Int32.ofNat dN)), .val (.ref b1), .val (.ref bS), .val (.int (Int32.ofNat (2 ^ wN - 1))), .unset, .unset, .unset, .unset] [(.int (32 : Int32)), (.int nv), (.int (((F_fs q1 wv) + (F_fs q2 wv)) + (F_fs q3 wv)))])) _
      have hc364_12 : nv = (32 : Int32) := hc300_5
      refine Own.go (fun t k => XS.icmpNo X12.here hx rfl (hb hby at_364) rfl (teq hc364_12).2 k) ?_
      show Own.Fin p e below (T12.setTop (mkF m 367 #[.val (.long q1), .second, .val (.long q2), .second, .val (.long q3), .second, .val (.long q4), .second, .val (.int p5), .val (.int p6), .val (.int (p5 &&& (7 : Int32))), .val (.ref oa), .val (.int nv), .val (.int wv), .val (.int pv), .val (.int lv), .val (.int (Int32.ofNat dN)), .val (.ref b1), .val (.ref bS), .val (.int (Int32.ofNat (2 ^ wN - 1))), .unset, .unset, .unset, .unset] [(.int (((F_fs q1 wv) + (F_fs q2 wv)) + (F_fs q3 wv)))])) _
      refine Own.go (fun t k => XS.lload X12.here hx rfl (hb hby at_367) rfl k) ?_
      show Own.Fin p e below (T12.setTop (mkF m 369 #[.val (.long q1), .second, .val (.long q2), .second, .val (.long q3), .second, .val (.long q4), .second, .val (.int p5), .val (.int p6), .val (.int (p5 &&& (7 : Int32))), .val (.ref oa), .val (.int nv), .val (.int wv), .val (.int pv), .val (.int lv), .val (.int (Int32.ofNat dN)), .val (.ref b1), .val (.ref bS), .val (.int (Int32.ofNat (2 ^ wN - 1))), .unset, .unset, .unset, .unset] [(.long q4), (.int (((F_fs q1 wv) + (F_fs q2 wv)) + (F_fs q3 wv)))])) _
      refine Own.go (fun t k => XS.iload X12.here hx rfl (hb hby at_369) rfl k) ?_
      show Own.Fin p e below (T12.setTop (mkF m 371 #[.val (.long q1), .second, .val (.long q2), .second, .val (.long q3), .second, .val (.long q4), .second, .val (.int p5), .val (.int p6), .val (.int (p5 &&& (7 : Int32))), .val (.ref oa), .val (.int nv), .val (.int wv), .val (.int pv), .val (.int lv), .val (.int (Int32.ofNat dN)), .val (.ref b1), .val (.ref bS), .val (.int (Int32.ofNat (2 ^ wN - 1))), .unset, .unset, .unset, .unset] [(.int wv), (.long q4), (.int (((F_fs q1 wv) + (F_fs q2 wv)) + (F_fs q3 wv)))])) _
      refine Own.cS X12 hx hZ hown (hw _ (List.mem_of_getElem? (i := 26) rfl)) (hw _ (List.mem_of_getElem? (i := 27) rfl)) (hw _ (List.mem_of_getElem? (i := 6) rfl)) (hw _ (List.mem_of_getElem? (i := 28) rfl)) (by decide) (rm4 l Z a0 hw [] q4 wv T8.heap n0 Z8 ) (by decide) (W := 1) (by decide) (argsL := [(.long q4), (.int wv)]) (rest := [(.int (((F_fs q1 wv) + (F_fs q2 wv)) + (F_fs q3 wv)))]) (by rw [hml]; rfl) (lenOf pd_3 rfl) rfl (Nat.le_of_eq rfl) (hb hby at_371) e12 (by decide) (by decide) ?_
      intro T14 L14 v14 X14 hQ14
      obtain ⟨rfl, N14q, e14⟩ := hQ14
      have N14 := Fr.app N12 N14q
      show Own.Fin p e below (T14.setTop (mkF m 374 #[.val (.long q1), .second, .val (.long q2), .second, .val (.long q3), .second, .val (.long q4), .second, .val (.int p5), .val (.int p6), .val (.int (p5 &&& (7 : Int32))), .val (.ref oa), .val (.int nv), .val (.int wv), .val (.int pv), .val (.int lv), .val (.int (Int32.ofNat dN)), .val (.ref b1), .val (.ref bS), .val (.int (Int32.ofNat (2 ^ wN - 1))), .unset, .unset, .unset, .unset] [(.int (F_fs q4 wv)), (.int (((F_fs q1 wv) + (F_fs q2 wv)) + (F_fs q3 wv)))])) _
      refine Own.go (fun t k => XS.goto X14.here hx rfl (pc0 := 374) (pc' := 378) rfl (hb hby at_374) (by decide) (by decide) k) ?_
      show Own.Fin p e below (T14.setTop (mkF m 378 #[.val (.long q1), .second, .val (.long q2), .second, .val (.long q3), .second, .val (.long q4), .second, .val (.int p5), .val (.int p6), .val (.int (p5 &&& (7 : Int32))), .val (.ref oa), .val (.int nv), .val (.int wv), .val (.int pv), .val (.int lv), .val (.int (Int32.ofNat dN)), .val (.ref b1), .val (.ref bS), .val (.int (Int32.ofNat (2 ^ wN - 1))), .unset, .unset, .unset, .unset] [(.int (F_fs q4 wv)), (.int (((F_fs q1 wv) + (F_fs q2 wv)) + (F_fs q3 wv)))])) _
      refine Own.go (fun t k => XS.iadd X14.here hx rfl (hb hby at_378) rfl k) ?_
      show Own.Fin p e below (T14.setTop (mkF m 379 #[.val (.long q1), .second, .val (.long q2), .second, .val (.long q3), .second, .val (.long q4), .second, .val (.int p5), .val (.int p6), .val (.int (p5 &&& (7 : Int32))), .val (.ref oa), .val (.int nv), .val (.int wv), .val (.int pv), .val (.int lv), .val (.int (Int32.ofNat dN)), .val (.ref b1), .val (.ref bS), .val (.int (Int32.ofNat (2 ^ wN - 1))), .unset, .unset, .unset, .unset] [(.int ((((F_fs q1 wv) + (F_fs q2 wv)) + (F_fs q3 wv)) + (F_fs q4 wv)))])) _
      rw [show ((((F_fs q1 wv) + (F_fs q2 wv)) + (F_fs q3 wv)) + (F_fs q4 wv)) = (Int32.ofNat (sum4 32 wN uN q1 q2 q3 q4)) from (sum4_32 hw8 q1 q2 q3 q4)]
      show Own.Fin p e below (T14.setTop (mkF m 379 #[.val (.long q1), .second, .val (.long q2), .second, .val (.long q3), .second, .val (.long q4), .second, .val (.int p5), .val (.int p6), .val (.int (p5 &&& (7 : Int32))), .val (.ref oa), .val (.int nv), .val (.int wv), .val (.int pv), .val (.int lv), .val (.int (Int32.ofNat dN)), .val (.ref b1), .val (.ref bS), .val (.int (Int32.ofNat (2 ^ wN - 1))), .unset, .unset, .unset, .unset] [(.int (Int32.ofNat (sum4 32 wN uN q1 q2 q3 q4)))])) _
      refine Own.go (fun t k => XS.istore X14.here hx rfl (hb hby at_379) rfl (l' := #[.val (.long q1), .second, .val (.long q2), .second, .val (.long q3), .second, .val (.long q4), .second, .val (.int p5), .val (.int p6), .val (.int (p5 &&& (7 : Int32))), .val (.ref oa), .val (.int nv), .val (.int wv), .val (.int pv), .val (.int lv), .val (.int (Int32.ofNat dN)), .val (.ref b1), .val (.ref bS), .val (.int (Int32.ofNat (2 ^ wN - 1))), .val (.int (Int32.ofNat (sum4 32 wN uN q1 q2 q3 q4))), .unset, .unset, .unset]) rfl k) ?_
      show Own.Fin p e below (T14.setTop (mkF m 381 #[.val (.long q1), .second, .val (.long q2), .second, .val (.long q3), .second, .val (.long q4), .second, .val (.int p5), .val (.int p6), .val (.int (p5 &&& (7 : Int32))), .val (.ref oa), .val (.int nv), .val (.int wv), .val (.int pv), .val (.int lv), .val (.int (Int32.ofNat dN)), .val (.ref b1), .val (.ref bS), .val (.int (Int32.ofNat (2 ^ wN - 1))), .val (.int (Int32.ofNat (sum4 32 wN uN q1 q2 q3 q4))), .unset, .unset, .unset] [])) _
      refine Own.go (fun t k => XS.iload X14.here hx rfl (hb hby at_381) rfl k) ?_
      show Own.Fin p e below (T14.setTop (mkF m 383 #[.val (.long q1), .second, .val (.long q2), .second, .val (.long q3), .second, .val (.long q4), .second, .val (.int p5), .val (.int p6), .val (.int (p5 &&& (7 : Int32))), .val (.ref oa), .val (.int nv), .val (.int wv), .val (.int pv), .val (.int lv), .val (.int (Int32.ofNat dN)), .val (.ref b1), .val (.ref bS), .val (.int (Int32.ofNat (2 ^ wN - 1))), .val (.int (Int32.ofNat (sum4 32 wN uN q1 q2 q3 q4))), .unset, .unset, .unset] [(.int (Int32.ofNat dN))])) _
      refine Own.go (fun t k => XS.iload X14.here hx rfl (hb hby at_383) rfl k) ?_
      show Own.Fin p e below (T14.setTop (mkF m 385 #[.val (.long q1), .second, .val (.long q2), .second, .val (.long q3), .second, .val (.long q4), .second, .val (.int p5), .val (.int p6), .val (.int (p5 &&& (7 : Int32))), .val (.ref oa), .val (.int nv), .val (.int wv), .val (.int pv), .val (.int lv), .val (.int (Int32.ofNat dN)), .val (.ref b1), .val (.ref bS), .val (.int (Int32.ofNat (2 ^ wN - 1))), .val (.int (Int32.ofNat (sum4 32 wN uN q1 q2 q3 q4))), .unset, .unset, .unset] [(.int (Int32.ofNat (2 ^ wN - 1))), (.int (Int32.ofNat dN))])) _
      refine Own.go (fun t k => XS.imul X14.here hx rfl (hb hby at_385) rfl k) ?_
      show Own.Fin p e below (T14.setTop (mkF m 386 #[.val (.long q1), .second, .val (.long q2), .second, .val (.long q3), .second, .val (.long q4), .second, .val (.int p5), .val (.int p6), .val (.int (p5 &&& (7 : Int32))), .val (.ref oa), .val (.int nv), .val (.int wv), .val (.int pv), .val (.int lv), .val (.int (Int32.ofNat dN)), .val (.ref b1), .val (.ref bS), .val (.int (Int32.ofNat (2 ^ wN - 1))), .val (.int (Int32.ofNat (sum4 32 wN uN q1 q2 q3 q4))), .unset, .unset, .unset] [(.int ((Int32.ofNat dN) * (Int32.ofNat (2 ^ wN - 1))))])) _
      refine Own.go (fun t k => XS.iload X14.here hx rfl (hb hby at_386) rfl k) ?_
      show Own.Fin p e below (T14.setTop (mkF m 388 #[.val (.long q1), .second, .val (.long q2), .second, .val (.long q3), .second, .val (.long q4), .second, .val (.int p5), .val (.int p6), .val (.int (p5 &&& (7 : Int32))), .val (.ref oa), .val (.int nv), .val (.int wv), .val (.int pv), .val (.int lv), .val (.int (Int32.ofNat dN)), .val (.ref b1), .val (.ref bS), .val (.int (Int32.ofNat (2 ^ wN - 1))), .val (.int (Int32.ofNat (sum4 32 wN uN q1 q2 q3 q4))), .unset, .unset, .unset] [(.int (Int32.ofNat (sum4 32 wN uN q1 q2 q3 q4))), (.int ((Int32.ofNat dN) * (Int32.ofNat (2 ^ wN - 1))))])) _
      refine Own.go (fun t k => XS.isub X14.here hx rfl (hb hby at_388) rfl k) ?_
      show Own.Fin p e below (T14.setTop (mkF m 389 #[.val (.long q1), .second, .val (.long q2), .second, .val (.long q3), .second, .val (.long q4), .second, .val (.int p5), .val (.int p6), .val (.int (p5 &&& (7 : Int32))), .val (.ref oa), .val (.int nv), .val (.int wv), .val (.int pv), .val (.int lv), .val (.int (Int32.ofNat dN)), .val (.ref b1), .val (.ref bS), .val (.int (Int32.ofNat (2 ^ wN - 1))), .val (.int (Int32.ofNat (sum4 32 wN uN q1 q2 q3 q4))), .unset, .unset, .unset] [(.int (((Int32.ofNat dN) * (Int32.ofNat (2 ^ wN - 1))) - (Int32.ofNat (sum4 32 wN uN q1 q2 q3 q4))))])) _
      rw [show (((Int32.ofNat dN) * (Int32.ofNat (2 ^ wN - 1))) - (Int32.ofNat (sum4 32 wN uN q1 q2 q3 q4))) = (Int32.ofNat (SN wN uN (bys q1 q2 q3 q4) dN)) from (by rw [← hNv]; exact ck_eq hP q1 q2 q3 q4)]
      show Own.Fin p e below (T14.setTop (mkF m 389 #[.val (.long q1), .second, .val (.long q2), .second, .val (.long q3), .second, .val (.long q4), .second, .val (.int p5), .val (.int p6), .val (.int (p5 &&& (7 : Int32))), .val (.ref oa), .val (.int nv), .val (.int wv), .val (.int pv), .val (.int lv), .val (.int (Int32.ofNat dN)), .val (.ref b1), .val (.ref bS), .val (.int (Int32.ofNat (2 ^ wN - 1))), .val (.int (Int32.ofNat (sum4 32 wN uN q1 q2 q3 q4))), .unset, .unset, .unset] [(.int (Int32.ofNat (SN wN uN (bys q1 q2 q3 q4) dN)))])) _
      refine Own.go (fun t k => XS.iload X14.here hx rfl (hb hby at_389) rfl k) ?_
      show Own.Fin p e below (T14.setTop (mkF m 391 #[.val (.long q1), .second, .val (.long q2), .second, .val (.long q3), .second, .val (.long q4), .second, .val (.int p5), .val (.int p6), .val (.int (p5 &&& (7 : Int32))), .val (.ref oa), .val (.int nv), .val (.int wv), .val (.int pv), .val (.int lv), .val (.int (Int32.ofNat dN)), .val (.ref b1), .val (.ref bS), .val (.int (Int32.ofNat (2 ^ wN - 1))), .val (.int (Int32.ofNat (sum4 32 wN uN q1 q2 q3 q4))), .unset, .unset, .unset] [(.int lv), (.int (Int32.ofNat (SN wN uN (bys q1 q2 q3 q4) dN)))])) _
      refine Own.go (fun t k => XS.ishl X14.here hx rfl (hb hby at_391) rfl k) ?_
      show Own.Fin p e below (T14.setTop (mkF m 392 #[.val (.long q1), .second, .val (.long q2), .second, .val (.long q3), .second, .val (.long q4), .second, .val (.int p5), .val (.int p6), .val (.int (p5 &&& (7 : Int32))), .val (.ref oa), .val (.int nv), .val (.int wv), .val (.int pv), .val (.int lv), .val (.int (Int32.ofNat dN)), .val (.ref b1), .val (.ref bS), .val (.int (Int32.ofNat (2 ^ wN - 1))), .val (.int (Int32.ofNat (sum4 32 wN uN q1 q2 q3 q4))), .unset, .unset, .unset] [(.int (((Int32.ofNat (SN wN uN (bys q1 q2 q3 q4) dN)) <<< (lv &&& 31))))])) _
      refine Own.go (fun t k => X14.ldcInt hx hown (mvT hZ (hw _ (List.mem_of_getElem? (i := 32) rfl))) (g := (mkF m 392 #[.val (.long q1), .second, .val (.long q2), .second, .val (.long q3), .second, .val (.long q4), .second, .val (.int p5), .val (.int p6), .val (.int (p5 &&& (7 : Int32))), .val (.ref oa), .val (.int nv), .val (.int wv), .val (.int pv), .val (.int lv), .val (.int (Int32.ofNat dN)), .val (.ref b1), .val (.ref bS), .val (.int (Int32.ofNat (2 ^ wN - 1))), .val (.int (Int32.ofNat (sum4 32 wN uN q1 q2 q3 q4))), .unset, .unset, .unset] [(.int (((Int32.ofNat (SN wN uN (bys q1 q2 q3 q4) dN)) <<< (lv &&& 31))))])) rfl (hb hby at_392) _ k) ?_
      show Own.Fin p e below (T14.setTop (mkF m 394 #[.val (.long q1), .second, .val (.long q2), .second, .val (.long q3), .second, .val (.long q4), .second, .val (.int p5), .val (.int p6), .val (.int (p5 &&& (7 : Int32))), .val (.ref oa), .val (.int nv), .val (.int wv), .val (.int pv), .val (.int lv), .val (.int (Int32.ofNat dN)), .val (.ref b1), .val (.ref bS), .val (.int (Int32.ofNat (2 ^ wN - 1))), .val (.int (Int32.ofNat (sum4 32 wN uN q1 q2 q3 q4))), .unset, .unset, .unset] [(.int (65535 : Int32)), (.int (((Int32.ofNat (SN wN uN (bys q1 q2 q3 q4) dN)) <<< (lv &&& 31))))])) _
      refine Own.go (fun t k => XS.iand X14.here hx rfl (hb hby at_394) rfl k) ?_
      show Own.Fin p e below (T14.setTop (mkF m 395 #[.val (.long q1), .second, .val (.long q2), .second, .val (.long q3), .second, .val (.long q4), .second, .val (.int p5), .val (.int p6), .val (.int (p5 &&& (7 : Int32))), .val (.ref oa), .val (.int nv), .val (.int wv), .val (.int pv), .val (.int lv), .val (.int (Int32.ofNat dN)), .val (.ref b1), .val (.ref bS), .val (.int (Int32.ofNat (2 ^ wN - 1))), .val (.int (Int32.ofNat (sum4 32 wN uN q1 q2 q3 q4))), .unset, .unset, .unset] [(.int ((((Int32.ofNat (SN wN uN (bys q1 q2 q3 q4) dN)) <<< (lv &&& 31))) &&& (65535 : Int32)))])) _
      refine Own.go (fun t k => XS.istore X14.here hx rfl (hb hby at_395) rfl (l' := #[.val (.long q1), .second, .val (.long q2), .second, .val (.long q3), .second, .val (.long q4), .second, .val (.int p5), .val (.int p6), .val (.int (p5 &&& (7 : Int32))), .val (.ref oa), .val (.int nv), .val (.int wv), .val (.int pv), .val (.int lv), .val (.int (Int32.ofNat dN)), .val (.ref b1), .val (.ref bS), .val (.int (Int32.ofNat (2 ^ wN - 1))), .val (.int (Int32.ofNat (sum4 32 wN uN q1 q2 q3 q4))), .val (.int ((((Int32.ofNat (SN wN uN (bys q1 q2 q3 q4) dN)) <<< (lv &&& 31))) &&& (65535 : Int32))), .unset, .unset]) rfl k) ?_
      show Own.Fin p e below (T14.setTop (mkF m 397 #[.val (.long q1), .second, .val (.long q2), .second, .val (.long q3), .second, .val (.long q4), .second, .val (.int p5), .val (.int p6), .val (.int (p5 &&& (7 : Int32))), .val (.ref oa), .val (.int nv), .val (.int wv), .val (.int pv), .val (.int lv), .val (.int (Int32.ofNat dN)), .val (.ref b1), .val (.ref bS), .val (.int (Int32.ofNat (2 ^ wN - 1))), .val (.int (Int32.ofNat (sum4 32 wN uN q1 q2 q3 q4))), .val (.int ((((Int32.ofNat (SN wN uN (bys q1 q2 q3 q4) dN)) <<< (lv &&& 31))) &&& (65535 : Int32))), .unset, .unset] [])) _
      refine Own.go (fun t k => XS.iload X14.here hx rfl (hb hby at_397) rfl k) ?_
      show Own.Fin p e below (T14.setTop (mkF m 399 #[.val (.long q1), .second, .val (.long q2), .second, .val (.long q3), .second, .val (.long q4), .second, .val (.int p5), .val (.int p6), .val (.int (p5 &&& (7 : Int32))), .val (.ref oa), .val (.int nv), .val (.int wv), .val (.int pv), .val (.int lv), .val (.int (Int32.ofNat dN)), .val (.ref b1), .val (.ref bS), .val (.int (Int32.ofNat (2 ^ wN - 1))), .val (.int (Int32.ofNat (sum4 32 wN uN q1 q2 q3 q4))), .val (.int ((((Int32.ofNat (SN wN uN (bys q1 q2 q3 q4) dN)) <<< (lv &&& 31))) &&& (65535 : Int32))), .unset, .unset] [(.int p6)])) _
      refine Own.go (fun t k => X14.ldcInt hx hown (mvT hZ (hw _ (List.mem_of_getElem? (i := 32) rfl))) (g := (mkF m 399 #[.val (.long q1), .second, .val (.long q2), .second, .val (.long q3), .second, .val (.long q4), .second, .val (.int p5), .val (.int p6), .val (.int (p5 &&& (7 : Int32))), .val (.ref oa), .val (.int nv), .val (.int wv), .val (.int pv), .val (.int lv), .val (.int (Int32.ofNat dN)), .val (.ref b1), .val (.ref bS), .val (.int (Int32.ofNat (2 ^ wN - 1))), .val (.int (Int32.ofNat (sum4 32 wN uN q1 q2 q3 q4))), .val (.int ((((Int32.ofNat (SN wN uN (bys q1 q2 q3 q4) dN)) <<< (lv &&& 31))) &&& (65535 : Int32))), .unset, .unset] [(.int p6)])) rfl (hb hby at_399) _ k) ?_
      show Own.Fin p e below (T14.setTop (mkF m 401 #[.val (.long q1), .second, .val (.long q2), .second, .val (.long q3), .second, .val (.long q4), .second, .val (.int p5), .val (.int p6), .val (.int (p5 &&& (7 : Int32))), .val (.ref oa), .val (.int nv), .val (.int wv), .val (.int pv), .val (.int lv), .val (.int (Int32.ofNat dN)), .val (.ref b1), .val (.ref bS), .val (.int (Int32.ofNat (2 ^ wN - 1))), .val (.int (Int32.ofNat (sum4 32 wN uN q1 q2 q3 q4))), .val (.int ((((Int32.ofNat (SN wN uN (bys q1 q2 q3 q4) dN)) <<< (lv &&& 31))) &&& (65535 : Int32))), .unset, .unset] [(.int (65535 : Int32)), (.int p6)])) _
      refine Own.go (fun t k => XS.iand X14.here hx rfl (hb hby at_401) rfl k) ?_
      show Own.Fin p e below (T14.setTop (mkF m 402 #[.val (.long q1), .second, .val (.long q2), .second, .val (.long q3), .second, .val (.long q4), .second, .val (.int p5), .val (.int p6), .val (.int (p5 &&& (7 : Int32))), .val (.ref oa), .val (.int nv), .val (.int wv), .val (.int pv), .val (.int lv), .val (.int (Int32.ofNat dN)), .val (.ref b1), .val (.ref bS), .val (.int (Int32.ofNat (2 ^ wN - 1))), .val (.int (Int32.ofNat (sum4 32 wN uN q1 q2 q3 q4))), .val (.int ((((Int32.ofNat (SN wN uN (bys q1 q2 q3 q4) dN)) <<< (lv &&& 31))) &&& (65535 : Int32))), .unset, .unset] [(.int (p6 &&& (65535 : Int32)))])) _
      refine Own.go (fun t k => XS.iload X14.here hx rfl (hb hby at_402) rfl k) ?_
      show Own.Fin p e below (T14.setTop (mkF m 404 #[.val (.long q1), .second, .val (.long q2), .second, .val (.long q3), .second, .val (.long q4), .second, .val (.int p5), .val (.int p6), .val (.int (p5 &&& (7 : Int32))), .val (.ref oa), .val (.int nv), .val (.int wv), .val (.int pv), .val (.int lv), .val (.int (Int32.ofNat dN)), .val (.ref b1), .val (.ref bS), .val (.int (Int32.ofNat (2 ^ wN - 1))), .val (.int (Int32.ofNat (sum4 32 wN uN q1 q2 q3 q4))), .val (.int ((((Int32.ofNat (SN wN uN (bys q1 q2 q3 q4) dN)) <<< (lv &&& 31))) &&& (65535 : Int32))), .unset, .unset] [(.int pv), (.int (p6 &&& (65535 : Int32)))])) _
      refine Own.go (fun t k => XS.irem X14.here hx rfl (hb hby at_404) rfl fx10 k) ?_
      show Own.Fin p e below (T14.setTop (mkF m 405 #[.val (.long q1), .second, .val (.long q2), .second, .val (.long q3), .second, .val (.long q4), .second, .val (.int p5), .val (.int p6), .val (.int (p5 &&& (7 : Int32))), .val (.ref oa), .val (.int nv), .val (.int wv), .val (.int pv), .val (.int lv), .val (.int (Int32.ofNat dN)), .val (.ref b1), .val (.ref bS), .val (.int (Int32.ofNat (2 ^ wN - 1))), .val (.int (Int32.ofNat (sum4 32 wN uN q1 q2 q3 q4))), .val (.int ((((Int32.ofNat (SN wN uN (bys q1 q2 q3 q4) dN)) <<< (lv &&& 31))) &&& (65535 : Int32))), .unset, .unset] [(.int ((p6 &&& (65535 : Int32)) - ((p6 &&& (65535 : Int32)) / pv) * pv))])) _
      obtain ⟨i1, hi1, ei1⟩ := i1_ex hP p6
      rw [show ((p6 &&& (65535 : Int32)) - ((p6 &&& (65535 : Int32)) / pv) * pv) = (Int32.ofNat i1) from ei1]
      show Own.Fin p e below (T14.setTop (mkF m 405 #[.val (.long q1), .second, .val (.long q2), .second, .val (.long q3), .second, .val (.long q4), .second, .val (.int p5), .val (.int p6), .val (.int (p5 &&& (7 : Int32))), .val (.ref oa), .val (.int nv), .val (.int wv), .val (.int pv), .val (.int lv), .val (.int (Int32.ofNat dN)), .val (.ref b1), .val (.ref bS), .val (.int (Int32.ofNat (2 ^ wN - 1))), .val (.int (Int32.ofNat (sum4 32 wN uN q1 q2 q3 q4))), .val (.int ((((Int32.ofNat (SN wN uN (bys q1 q2 q3 q4) dN)) <<< (lv &&& 31))) &&& (65535 : Int32))), .unset, .unset] [(.int (Int32.ofNat i1))])) _
      refine Own.go (fun t k => XS.istore X14.here hx rfl (hb hby at_405) rfl (l' := #[.val (.long q1), .second, .val (.long q2), .second, .val (.long q3), .second, .val (.long q4), .second, .val (.int p5), .val (.int p6), .val (.int (p5 &&& (7 : Int32))), .val (.ref oa), .val (.int nv), .val (.int wv), .val (.int pv), .val (.int lv), .val (.int (Int32.ofNat dN)), .val (.ref b1), .val (.ref bS), .val (.int (Int32.ofNat (2 ^ wN - 1))), .val (.int (Int32.ofNat (sum4 32 wN uN q1 q2 q3 q4))), .val (.int ((((Int32.ofNat (SN wN uN (bys q1 q2 q3 q4) dN)) <<< (lv &&& 31))) &&& (65535 : Int32))), .val (.int (Int32.ofNat i1)), .unset]) rfl k) ?_
      show Own.Fin p e below (T14.setTop (mkF m 407 #[.val (.long q1), .second, .val (.long q2), .second, .val (.long q3), .second, .val (.long q4), .second, .val (.int p5), .val (.int p6), .val (.int (p5 &&& (7 : Int32))), .val (.ref oa), .val (.int nv), .val (.int wv), .val (.int pv), .val (.int lv), .val (.int (Int32.ofNat dN)), .val (.ref b1), .val (.ref bS), .val (.int (Int32.ofNat (2 ^ wN - 1))), .val (.int (Int32.ofNat (sum4 32 wN uN q1 q2 q3 q4))), .val (.int ((((Int32.ofNat (SN wN uN (bys q1 q2 q3 q4) dN)) <<< (lv &&& 31))) &&& (65535 : Int32))), .val (.int (Int32.ofNat i1)), .unset] [])) _
      refine Own.go (fun t k => XS.iload X14.here hx rfl (hb hby at_407) rfl k) ?_
      show Own.Fin p e below (T14.setTop (mkF m 409 #[.val (.long q1), .second, .val (.long q2), .second, .val (.long q3), .second, .val (.long q4), .second, .val (.int p5), .val (.int p6), .val (.int (p5 &&& (7 : Int32))), .val (.ref oa), .val (.int nv), .val (.int wv), .val (.int pv), .val (.int lv), .val (.int (Int32.ofNat dN)), .val (.ref b1), .val (.ref bS), .val (.int (Int32.ofNat (2 ^ wN - 1))), .val (.int (Int32.ofNat (sum4 32 wN uN q1 q2 q3 q4))), .val (.int ((((Int32.ofNat (SN wN uN (bys q1 q2 q3 q4) dN)) <<< (lv &&& 31))) &&& (65535 : Int32))), .val (.int (Int32.ofNat i1)), .unset] [(.int (Int32.ofNat dN))])) _
      refine Own.go (fun t k => XS.iload X14.here hx rfl (hb hby at_409) rfl k) ?_
      show Own.Fin p e below (T14.setTop (mkF m 411 #[.val (.long q1), .second, .val (.long q2), .second, .val (.long q3), .second, .val (.long q4), .second, .val (.int p5), .val (.int p6), .val (.int (p5 &&& (7 : Int32))), .val (.ref oa), .val (.int nv), .val (.int wv), .val (.int pv), .val (.int lv), .val (.int (Int32.ofNat dN)), .val (.ref b1), .val (.ref bS), .val (.int (Int32.ofNat (2 ^ wN - 1))), .val (.int (Int32.ofNat (sum4 32 wN uN q1 q2 q3 q4))), .val (.int ((((Int32.ofNat (SN wN uN (bys q1 q2 q3 q4) dN)) <<< (lv &&& 31))) &&& (65535 : Int32))), .val (.int (Int32.ofNat i1)), .unset] [(.int p6), (.int (Int32.ofNat dN))])) _
      refine Own.go (fun t k => XS.bipush X14.here hx rfl (hb hby at_411) k) ?_
      show Own.Fin p e below (T14.setTop (mkF m 413 #[.val (.long q1), .second, .val (.long q2), .second, .val (.long q3), .second, .val (.long q4), .second, .val (.int p5), .val (.int p6), .val (.int (p5 &&& (7 : Int32))), .val (.ref oa), .val (.int nv), .val (.int wv), .val (.int pv), .val (.int lv), .val (.int (Int32.ofNat dN)), .val (.ref b1), .val (.ref bS), .val (.int (Int32.ofNat (2 ^ wN - 1))), .val (.int (Int32.ofNat (sum4 32 wN uN q1 q2 q3 q4))), .val (.int ((((Int32.ofNat (SN wN uN (bys q1 q2 q3 q4) dN)) <<< (lv &&& 31))) &&& (65535 : Int32))), .val (.int (Int32.ofNat i1)), .unset] [(.int (16 : Int32)), (.int p6), (.int (Int32.ofNat dN))])) _
      refine Own.go (fun t k => XS.iushr X14.here hx rfl (hb hby at_413) rfl k) ?_
      show Own.Fin p e below (T14.setTop (mkF m 414 #[.val (.long q1), .second, .val (.long q2), .second, .val (.long q3), .second, .val (.long q4), .second, .val (.int p5), .val (.int p6), .val (.int (p5 &&& (7 : Int32))), .val (.ref oa), .val (.int nv), .val (.int wv), .val (.int pv), .val (.int lv), .val (.int (Int32.ofNat dN)), .val (.ref b1), .val (.ref bS), .val (.int (Int32.ofNat (2 ^ wN - 1))), .val (.int (Int32.ofNat (sum4 32 wN uN q1 q2 q3 q4))), .val (.int ((((Int32.ofNat (SN wN uN (bys q1 q2 q3 q4) dN)) <<< (lv &&& 31))) &&& (65535 : Int32))), .val (.int (Int32.ofNat i1)), .unset] [(.int (((p6).toUInt32 >>> ((16 : Int32) &&& 31).toUInt32).toInt32)), (.int (Int32.ofNat dN))])) _
      refine Own.go (fun t k => XS.iload X14.here hx rfl (hb hby at_414) rfl k) ?_
      show Own.Fin p e below (T14.setTop (mkF m 416 #[.val (.long q1), .second, .val (.long q2), .second, .val (.long q3), .second, .val (.long q4), .second, .val (.int p5), .val (.int p6), .val (.int (p5 &&& (7 : Int32))), .val (.ref oa), .val (.int nv), .val (.int wv), .val (.int pv), .val (.int lv), .val (.int (Int32.ofNat dN)), .val (.ref b1), .val (.ref bS), .val (.int (Int32.ofNat (2 ^ wN - 1))), .val (.int (Int32.ofNat (sum4 32 wN uN q1 q2 q3 q4))), .val (.int ((((Int32.ofNat (SN wN uN (bys q1 q2 q3 q4) dN)) <<< (lv &&& 31))) &&& (65535 : Int32))), .val (.int (Int32.ofNat i1)), .unset] [(.int pv), (.int (((p6).toUInt32 >>> ((16 : Int32) &&& 31).toUInt32).toInt32)), (.int (Int32.ofNat dN))])) _
      refine Own.go (fun t k => XS.iload X14.here hx rfl (hb hby at_416) rfl k) ?_
      show Own.Fin p e below (T14.setTop (mkF m 418 #[.val (.long q1), .second, .val (.long q2), .second, .val (.long q3), .second, .val (.long q4), .second, .val (.int p5), .val (.int p6), .val (.int (p5 &&& (7 : Int32))), .val (.ref oa), .val (.int nv), .val (.int wv), .val (.int pv), .val (.int lv), .val (.int (Int32.ofNat dN)), .val (.ref b1), .val (.ref bS), .val (.int (Int32.ofNat (2 ^ wN - 1))), .val (.int (Int32.ofNat (sum4 32 wN uN q1 q2 q3 q4))), .val (.int ((((Int32.ofNat (SN wN uN (bys q1 q2 q3 q4) dN)) <<< (lv &&& 31))) &&& (65535 : Int32))), .val (.int (Int32.ofNat i1)), .unset] [(.int (Int32.ofNat dN)), (.int pv), (.int (((p6).toUInt32 >>> ((16 : Int32) &&& 31).toUInt32).toInt32)), (.int (Int32.ofNat dN))])) _
      refine Own.go (fun t k => XS.isub X14.here hx rfl (hb hby at_418) rfl k) ?_
      show Own.Fin p e below (T14.setTop (mkF m 419 #[.val (.long q1), .second, .val (.long q2), .second, .val (.long q3), .second, .val (.long q4), .second, .val (.int p5), .val (.int p6), .val (.int (p5 &&& (7 : Int32))), .val (.ref oa), .val (.int nv), .val (.int wv), .val (.int pv), .val (.int lv), .val (.int (Int32.ofNat dN)), .val (.ref b1), .val (.ref bS), .val (.int (Int32.ofNat (2 ^ wN - 1))), .val (.int (Int32.ofNat (sum4 32 wN uN q1 q2 q3 q4))), .val (.int ((((Int32.ofNat (SN wN uN (bys q1 q2 q3 q4) dN)) <<< (lv &&& 31))) &&& (65535 : Int32))), .val (.int (Int32.ofNat i1)), .unset] [(.int (pv - (Int32.ofNat dN))), (.int (((p6).toUInt32 >>> ((16 : Int32) &&& 31).toUInt32).toInt32)), (.int (Int32.ofNat dN))])) _
      refine Own.go (fun t k => XS.irem X14.here hx rfl (hb hby at_419) rfl fx11 k) ?_
      show Own.Fin p e below (T14.setTop (mkF m 420 #[.val (.long q1), .second, .val (.long q2), .second, .val (.long q3), .second, .val (.long q4), .second, .val (.int p5), .val (.int p6), .val (.int (p5 &&& (7 : Int32))), .val (.ref oa), .val (.int nv), .val (.int wv), .val (.int pv), .val (.int lv), .val (.int (Int32.ofNat dN)), .val (.ref b1), .val (.ref bS), .val (.int (Int32.ofNat (2 ^ wN - 1))), .val (.int (Int32.ofNat (sum4 32 wN uN q1 q2 q3 q4))), .val (.int ((((Int32.ofNat (SN wN uN (bys q1 q2 q3 q4) dN)) <<< (lv &&& 31))) &&& (65535 : Int32))), .val (.int (Int32.ofNat i1)), .unset] [(.int ((((p6).toUInt32 >>> ((16 : Int32) &&& 31).toUInt32).toInt32) - ((((p6).toUInt32 >>> ((16 : Int32) &&& 31).toUInt32).toInt32) / (pv - (Int32.ofNat dN))) * (pv - (Int32.ofNat dN)))), (.int (Int32.ofNat dN))])) _
      refine Own.go (fun t k => XS.iadd X14.here hx rfl (hb hby at_420) rfl k) ?_
      show Own.Fin p e below (T14.setTop (mkF m 421 #[.val (.long q1), .second, .val (.long q2), .second, .val (.long q3), .second, .val (.long q4), .second, .val (.int p5), .val (.int p6), .val (.int (p5 &&& (7 : Int32))), .val (.ref oa), .val (.int nv), .val (.int wv), .val (.int pv), .val (.int lv), .val (.int (Int32.ofNat dN)), .val (.ref b1), .val (.ref bS), .val (.int (Int32.ofNat (2 ^ wN - 1))), .val (.int (Int32.ofNat (sum4 32 wN uN q1 q2 q3 q4))), .val (.int ((((Int32.ofNat (SN wN uN (bys q1 q2 q3 q4) dN)) <<< (lv &&& 31))) &&& (65535 : Int32))), .val (.int (Int32.ofNat i1)), .unset] [(.int ((Int32.ofNat dN) + ((((p6).toUInt32 >>> ((16 : Int32) &&& 31).toUInt32).toInt32) - ((((p6).toUInt32 >>> ((16 : Int32) &&& 31).toUInt32).toInt32) / (pv - (Int32.ofNat dN))) * (pv - (Int32.ofNat dN)))))])) _
      obtain ⟨i2, hi2, ei2⟩ := i2_ex hP p6
      rw [show ((Int32.ofNat dN) + ((((p6).toUInt32 >>> ((16 : Int32) &&& 31).toUInt32).toInt32) - ((((p6).toUInt32 >>> ((16 : Int32) &&& 31).toUInt32).toInt32) / (pv - (Int32.ofNat dN))) * (pv - (Int32.ofNat dN)))) = (Int32.ofNat i2) from ei2]
      show Own.Fin p e below (T14.setTop (mkF m 421 #[.val (.long q1), .second, .val (.long q2), .second, .val (.long q3), .second, .val (.long q4), .second, .val (.int p5), .val (.int p6), .val (.int (p5 &&& (7 : Int32))), .val (.ref oa), .val (.int nv), .val (.int wv), .val (.int pv), .val (.int lv), .val (.int (Int32.ofNat dN)), .val (.ref b1), .val (.ref bS), .val (.int (Int32.ofNat (2 ^ wN - 1))), .val (.int (Int32.ofNat (sum4 32 wN uN q1 q2 q3 q4))), .val (.int ((((Int32.ofNat (SN wN uN (bys q1 q2 q3 q4) dN)) <<< (lv &&& 31))) &&& (65535 : Int32))), .val (.int (Int32.ofNat i1)), .unset] [(.int (Int32.ofNat i2))])) _
      refine Own.go (fun t k => XS.istore X14.here hx rfl (hb hby at_421) rfl (l' := #[.val (.long q1), .second, .val (.long q2), .second, .val (.long q3), .second, .val (.long q4), .second, .val (.int p5), .val (.int p6), .val (.int (p5 &&& (7 : Int32))), .val (.ref oa), .val (.int nv), .val (.int wv), .val (.int pv), .val (.int lv), .val (.int (Int32.ofNat dN)), .val (.ref b1), .val (.ref bS), .val (.int (Int32.ofNat (2 ^ wN - 1))), .val (.int (Int32.ofNat (sum4 32 wN uN q1 q2 q3 q4))), .val (.int ((((Int32.ofNat (SN wN uN (bys q1 q2 q3 q4) dN)) <<< (lv &&& 31))) &&& (65535 : Int32))), .val (.int (Int32.ofNat i1)), .val (.int (Int32.ofNat i2))]) rfl k) ?_
      show Own.Fin p e below (T14.setTop (mkF m 423 #[.val (.long q1), .second, .val (.long q2), .second, .val (.long q3), .second, .val (.long q4), .second, .val (.int p5), .val (.int p6), .val (.int (p5 &&& (7 : Int32))), .val (.ref oa), .val (.int nv), .val (.int wv), .val (.int pv), .val (.int lv), .val (.int (Int32.ofNat dN)), .val (.ref b1), .val (.ref bS), .val (.int (Int32.ofNat (2 ^ wN - 1))), .val (.int (Int32.ofNat (sum4 32 wN uN q1 q2 q3 q4))), .val (.int ((((Int32.ofNat (SN wN uN (bys q1 q2 q3 q4) dN)) <<< (lv &&& 31))) &&& (65535 : Int32))), .val (.int (Int32.ofNat i1)), .val (.int (Int32.ofNat i2))] [])) _
      refine Own.go (fun t k => XS.aload X14.here hx rfl (hb hby at_423) rfl rfl k) ?_
      show Own.Fin p e below (T14.setTop (mkF m 425 #[.val (.long q1), .second, .val (.long q2), .second, .val (.long q3), .second, .val (.long q4), .second, .val (.int p5), .val (.int p6), .val (.int (p5 &&& (7 : Int32))), .val (.ref oa), .val (.int nv), .val (.int wv), .val (.int pv), .val (.int lv), .val (.int (Int32.ofNat dN)), .val (.ref b1), .val (.ref bS), .val (.int (Int32.ofNat (2 ^ wN - 1))), .val (.int (Int32.ofNat (sum4 32 wN uN q1 q2 q3 q4))), .val (.int ((((Int32.ofNat (SN wN uN (bys q1 q2 q3 q4) dN)) <<< (lv &&& 31))) &&& (65535 : Int32))), .val (.int (Int32.ofNat i1)), .val (.int (Int32.ofNat i2))] [(.ref bS)])) _
      refine Own.go (fun t k => XS.iload X14.here hx rfl (hb hby at_425) rfl k) ?_
      show Own.Fin p e below (T14.setTop (mkF m 427 #[.val (.long q1), .second, .val (.long q2), .second, .val (.long q3), .second, .val (.long q4), .second, .val (.int p5), .val (.int p6), .val (.int (p5 &&& (7 : Int32))), .val (.ref oa), .val (.int nv), .val (.int wv), .val (.int pv), .val (.int lv), .val (.int (Int32.ofNat dN)), .val (.ref b1), .val (.ref bS), .val (.int (Int32.ofNat (2 ^ wN - 1))), .val (.int (Int32.ofNat (sum4 32 wN uN q1 q2 q3 q4))), .val (.int ((((Int32.ofNat (SN wN uN (bys q1 q2 q3 q4) dN)) <<< (lv &&& 31))) &&& (65535 : Int32))), .val (.int (Int32.ofNat i1)), .val (.int (Int32.ofNat i2))] [(.int (Int32.ofNat i1)), (.ref bS)])) _
      refine ldIT (x := (Int32.ofNat (cN wN uN dN (bys q1 q2 q3 q4) (cb (Int32.ofNat (SN wN uN (bys q1 q2 q3 q4) dN) <<< (lv &&& 31))) i1))) X14 hx hZ e14 VS (hb hby at_427) fx5 (by omega) i1 rfl hi1 (hgS i1 hi1) ?_
      show Own.Fin p e below (T14.setTop (mkF m 428 #[.val (.long q1), .second, .val (.long q2), .second, .val (.long q3), .second, .val (.long q4), .second, .val (.int p5), .val (.int p6), .val (.int (p5 &&& (7 : Int32))), .val (.ref oa), .val (.int nv), .val (.int wv), .val (.int pv), .val (.int lv), .val (.int (Int32.ofNat dN)), .val (.ref b1), .val (.ref bS), .val (.int (Int32.ofNat (2 ^ wN - 1))), .val (.int (Int32.ofNat (sum4 32 wN uN q1 q2 q3 q4))), .val (.int ((((Int32.ofNat (SN wN uN (bys q1 q2 q3 q4) dN)) <<< (lv &&& 31))) &&& (65535 : Int32))), .val (.int (Int32.ofNat i1)), .val (.int (Int32.ofNat i2))] [(.int (Int32.ofNat (cN wN uN dN (bys q1 q2 q3 q4) (cb (Int32.ofNat (SN wN uN (bys q1 q2 q3 q4) dN) <<< (lv &&& 31))) i1)))])) _
      refine Own.go (fun t k => XS.lloadN X14.here hx rfl (hb hby at_428) rfl k) ?_
      show Own.Fin p e below (T14.setTop (mkF m 429 #[.val (.long q1), .second, .val (.long q2), .second, .val (.long q3), .second, .val (.long q4), .second, .val (.int p5), .val (.int p6), .val (.int (p5 &&& (7 : Int32))), .val (.ref oa), .val (.int nv), .val (.int wv), .val (.int pv), .val (.int lv), .val (.int (Int32.ofNat dN)), .val (.ref b1), .val (.ref bS), .val (.int (Int32.ofNat (2 ^ wN - 1))), .val (.int (Int32.ofNat (sum4 32 wN uN q1 q2 q3 q4))), .val (.int ((((Int32.ofNat (SN wN uN (bys q1 q2 q3 q4) dN)) <<< (lv &&& 31))) &&& (65535 : Int32))), .val (.int (Int32.ofNat i1)), .val (.int (Int32.ofNat i2))] [(.long q1), (.int (Int32.ofNat (cN wN uN dN (bys q1 q2 q3 q4) (cb (Int32.ofNat (SN wN uN (bys q1 q2 q3 q4) dN) <<< (lv &&& 31))) i1)))])) _
      refine Own.go (fun t k => XS.lloadN X14.here hx rfl (hb hby at_429) rfl k) ?_
      show Own.Fin p e below (T14.setTop (mkF m 430 #[.val (.long q1), .second, .val (.long q2), .second, .val (.long q3), .second, .val (.long q4), .second, .val (.int p5), .val (.int p6), .val (.int (p5 &&& (7 : Int32))), .val (.ref oa), .val (.int nv), .val (.int wv), .val (.int pv), .val (.int lv), .val (.int (Int32.ofNat dN)), .val (.ref b1), .val (.ref bS), .val (.int (Int32.ofNat (2 ^ wN - 1))), .val (.int (Int32.ofNat (sum4 32 wN uN q1 q2 q3 q4))), .val (.int ((((Int32.ofNat (SN wN uN (bys q1 q2 q3 q4) dN)) <<< (lv &&& 31))) &&& (65535 : Int32))), .val (.int (Int32.ofNat i1)), .val (.int (Int32.ofNat i2))] [(.long q2), (.long q1), (.int (Int32.ofNat (cN wN uN dN (bys q1 q2 q3 q4) (cb (Int32.ofNat (SN wN uN (bys q1 q2 q3 q4) dN) <<< (lv &&& 31))) i1)))])) _
      refine Own.go (fun t k => XS.lload X14.here hx rfl (hb hby at_430) rfl k) ?_
      show Own.Fin p e below (T14.setTop (mkF m 432 #[.val (.long q1), .second, .val (.long q2), .second, .val (.long q3), .second, .val (.long q4), .second, .val (.int p5), .val (.int p6), .val (.int (p5 &&& (7 : Int32))), .val (.ref oa), .val (.int nv), .val (.int wv), .val (.int pv), .val (.int lv), .val (.int (Int32.ofNat dN)), .val (.ref b1), .val (.ref bS), .val (.int (Int32.ofNat (2 ^ wN - 1))), .val (.int (Int32.ofNat (sum4 32 wN uN q1 q2 q3 q4))), .val (.int ((((Int32.ofNat (SN wN uN (bys q1 q2 q3 q4) dN)) <<< (lv &&& 31))) &&& (65535 : Int32))), .val (.int (Int32.ofNat i1)), .val (.int (Int32.ofNat i2))] [(.long q3), (.long q2), (.long q1), (.int (Int32.ofNat (cN wN uN dN (bys q1 q2 q3 q4) (cb (Int32.ofNat (SN wN uN (bys q1 q2 q3 q4) dN) <<< (lv &&& 31))) i1)))])) _
      refine Own.go (fun t k => XS.lload X14.here hx rfl (hb hby at_432) rfl k) ?_
      show Own.Fin p e below (T14.setTop (mkF m 434 #[.val (.long q1), .second, .val (.long q2), .second, .val (.long q3), .second, .val (.long q4), .second, .val (.int p5), .val (.int p6), .val (.int (p5 &&& (7 : Int32))), .val (.ref oa), .val (.int nv), .val (.int wv), .val (.int pv), .val (.int lv), .val (.int (Int32.ofNat dN)), .val (.ref b1), .val (.ref bS), .val (.int (Int32.ofNat (2 ^ wN - 1))), .val (.int (Int32.ofNat (sum4 32 wN uN q1 q2 q3 q4))), .val (.int ((((Int32.ofNat (SN wN uN (bys q1 q2 q3 q4) dN)) <<< (lv &&& 31))) &&& (65535 : Int32))), .val (.int (Int32.ofNat i1)), .val (.int (Int32.ofNat i2))] [(.long q4), (.long q3), (.long q2), (.long q1), (.int (Int32.ofNat (cN wN uN dN (bys q1 q2 q3 q4) (cb (Int32.ofNat (SN wN uN (bys q1 q2 q3 q4) dN) <<< (lv &&& 31))) i1)))])) _
      refine Own.go (fun t k => XS.iload X14.here hx rfl (hb hby at_434) rfl k) ?_
      show Own.Fin p e below (T14.setTop (mkF m 436 #[.val (.long q1), .second, .val (.long q2), .second, .val (.long q3), .second, .val (.long q4), .second, .val (.int p5), .val (.int p6), .val (.int (p5 &&& (7 : Int32))), .val (.ref oa), .val (.int nv), .val (.int wv), .val (.int pv), .val (.int lv), .val (.int (Int32.ofNat dN)), .val (.ref b1), .val (.ref bS), .val (.int (Int32.ofNat (2 ^ wN - 1))), .val (.int (Int32.ofNat (sum4 32 wN uN q1 q2 q3 q4))), .val (.int ((((Int32.ofNat (SN wN uN (bys q1 q2 q3 q4) dN)) <<< (lv &&& 31))) &&& (65535 : Int32))), .val (.int (Int32.ofNat i1)), .val (.int (Int32.ofNat i2))] [(.int wv), (.long q4), (.long q3), (.long q2), (.long q1), (.int (Int32.ofNat (cN wN uN dN (bys q1 q2 q3 q4) (cb (Int32.ofNat (SN wN uN (bys q1 q2 q3 q4) dN) <<< (lv &&& 31))) i1)))])) _
      refine Own.go (fun t k => XS.iload X14.here hx rfl (hb hby at_436) rfl k) ?_
      show Own.Fin p e below (T14.setTop (mkF m 438 #[.val (.long q1), .second, .val (.long q2), .second, .val (.long q3), .second, .val (.long q4), .second, .val (.int p5), .val (.int p6), .val (.int (p5 &&& (7 : Int32))), .val (.ref oa), .val (.int nv), .val (.int wv), .val (.int pv), .val (.int lv), .val (.int (Int32.ofNat dN)), .val (.ref b1), .val (.ref bS), .val (.int (Int32.ofNat (2 ^ wN - 1))), .val (.int (Int32.ofNat (sum4 32 wN uN q1 q2 q3 q4))), .val (.int ((((Int32.ofNat (SN wN uN (bys q1 q2 q3 q4) dN)) <<< (lv &&& 31))) &&& (65535 : Int32))), .val (.int (Int32.ofNat i1)), .val (.int (Int32.ofNat i2))] [(.int (Int32.ofNat (2 ^ wN - 1))), (.int wv), (.long q4), (.long q3), (.long q2), (.long q1), (.int (Int32.ofNat (cN wN uN dN (bys q1 q2 q3 q4) (cb (Int32.ofNat (SN wN uN (bys q1 q2 q3 q4) dN) <<< (lv &&& 31))) i1)))])) _
      refine Own.go (fun t k => XS.iload X14.here hx rfl (hb hby at_438) rfl k) ?_
      show Own.Fin p e below (T14.setTop (mkF m 440 #[.val (.long q1), .second, .val (.long q2), .second, .val (.long q3), .second, .val (.long q4), .second, .val (.int p5), .val (.int p6), .val (.int (p5 &&& (7 : Int32))), .val (.ref oa), .val (.int nv), .val (.int wv), .val (.int pv), .val (.int lv), .val (.int (Int32.ofNat dN)), .val (.ref b1), .val (.ref bS), .val (.int (Int32.ofNat (2 ^ wN - 1))), .val (.int (Int32.ofNat (sum4 32 wN uN q1 q2 q3 q4))), .val (.int ((((Int32.ofNat (SN wN uN (bys q1 q2 q3 q4) dN)) <<< (lv &&& 31))) &&& (65535 : Int32))), .val (.int (Int32.ofNat i1)), .val (.int (Int32.ofNat i2))] [(.int (Int32.ofNat dN)), (.int (Int32.ofNat (2 ^ wN - 1))), (.int wv), (.long q4), (.long q3), (.long q2), (.long q1), (.int (Int32.ofNat (cN wN uN dN (bys q1 q2 q3 q4) (cb (Int32.ofNat (SN wN uN (bys q1 q2 q3 q4) dN) <<< (lv &&& 31))) i1)))])) _
      refine Own.go (fun t k => XS.iload X14.here hx rfl (hb hby at_440) rfl k) ?_
      show Own.Fin p e below (T14.setTop (mkF m 442 #[.val (.long q1), .second, .val (.long q2), .second, .val (.long q3), .second, .val (.long q4), .second, .val (.int p5), .val (.int p6), .val (.int (p5 &&& (7 : Int32))), .val (.ref oa), .val (.int nv), .val (.int wv), .val (.int pv), .val (.int lv), .val (.int (Int32.ofNat dN)), .val (.ref b1), .val (.ref bS), .val (.int (Int32.ofNat (2 ^ wN - 1))), .val (.int (Int32.ofNat (sum4 32 wN uN q1 q2 q3 q4))), .val (.int ((((Int32.ofNat (SN wN uN (bys q1 q2 q3 q4) dN)) <<< (lv &&& 31))) &&& (65535 : Int32))), .val (.int (Int32.ofNat i1)), .val (.int (Int32.ofNat i2))] [(.int ((((Int32.ofNat (SN wN uN (bys q1 q2 q3 q4) dN)) <<< (lv &&& 31))) &&& (65535 : Int32))), (.int (Int32.ofNat dN)), (.int (Int32.ofNat (2 ^ wN - 1))), (.int wv), (.long q4), (.long q3), (.long q2), (.long q1), (.int (Int32.ofNat (cN wN uN dN (bys q1 q2 q3 q4) (cb (Int32.ofNat (SN wN uN (bys q1 q2 q3 q4) dN) <<< (lv &&& 31))) i1)))])) _
      refine Own.go (fun t k => XS.iload X14.here hx rfl (hb hby at_442) rfl k) ?_
      show Own.Fin p e below (T14.setTop (mkF m 444 #[.val (.long q1), .second, .val (.long q2), .second, .val (.long q3), .second, .val (.long q4), .second, .val (.int p5), .val (.int p6), .val (.int (p5 &&& (7 : Int32))), .val (.ref oa), .val (.int nv), .val (.int wv), .val (.int pv), .val (.int lv), .val (.int (Int32.ofNat dN)), .val (.ref b1), .val (.ref bS), .val (.int (Int32.ofNat (2 ^ wN - 1))), .val (.int (Int32.ofNat (sum4 32 wN uN q1 q2 q3 q4))), .val (.int ((((Int32.ofNat (SN wN uN (bys q1 q2 q3 q4) dN)) <<< (lv &&& 31))) &&& (65535 : Int32))), .val (.int (Int32.ofNat i1)), .val (.int (Int32.ofNat i2))] [(.int (Int32.ofNat i1)), (.int ((((Int32.ofNat (SN wN uN (bys q1 q2 q3 q4) dN)) <<< (lv &&& 31))) &&& (65535 : Int32))), (.int (Int32.ofNat dN)), (.int (Int32.ofNat (2 ^ wN - 1))), (.int wv), (.long q4), (.long q3), (.long q2), (.long q1), (.int (Int32.ofNat (cN wN uN dN (bys q1 q2 q3 q4) (cb (Int32.ofNat (SN wN uN (bys q1 q2 q3 q4) dN) <<< (lv &&& 31))) i1)))])) _
      refine Own.cS X14 hx hZ hown (hw _ (List.mem_of_getElem? (i := 33) rfl)) (hw _ (List.mem_of_getElem? (i := 34) rfl)) (hw _ (List.mem_of_getElem? (i := 6) rfl)) (hw _ (List.mem_of_getElem? (i := 35) rfl)) (by decide) (rm5 l Z a0 hw [] q1 q2 q3 q4 wv (Int32.ofNat (2 ^ wN - 1)) (Int32.ofNat dN) ((((Int32.ofNat (SN wN uN (bys q1 q2 q3 q4) dN)) <<< (lv &&& 31))) &&& (65535 : Int32)) (Int32.ofNat i1) T8.heap n0 Z8 ) (by decide) (W := 1) (by decide) (argsL := [(.long q1), (.long q2), (.long q3), (.long q4), (.int wv), (.int (Int32.ofNat (2 ^ wN - 1))), (.int (Int32.ofNat dN)), (.int ((((Int32.ofNat (SN wN uN (bys q1 q2 q3 q4) dN)) <<< (lv &&& 31))) &&& (65535 : Int32))), (.int (Int32.ofNat i1))]) (rest := [(.int (Int32.ofNat (cN wN uN dN (bys q1 q2 q3 q4) (cb (Int32.ofNat (SN wN uN (bys q1 q2 q3 q4) dN) <<< (lv &&& 31))) i1)))]) (by rw [hml]; rfl) (lenOf pd_4 rfl) rfl (Nat.le_of_eq rfl) (hb hby at_444) e14 (by decide) (by decide) ?_
      intro T15 L15 v15 X15 hQ15
      obtain ⟨rfl, N15q, e15⟩ := hQ15
      have N15 := Fr.app N14 N15q
      show Own.Fin p e below (T15.setTop (mkF m 447 #[.val (.long q1), .second, .val (.long q2), .second, .val (.long q3), .second, .val (.long q4), .second, .val (.int p5), .val (.int p6), .val (.int (p5 &&& (7 : Int32))), .val (.ref oa), .val (.int nv), .val (.int wv), .val (.int pv), .val (.int lv), .val (.int (Int32.ofNat dN)), .val (.ref b1), .val (.ref bS), .val (.int (Int32.ofNat (2 ^ wN - 1))), .val (.int (Int32.ofNat (sum4 32 wN uN q1 q2 q3 q4))), .val (.int ((((Int32.ofNat (SN wN uN (bys q1 q2 q3 q4) dN)) <<< (lv &&& 31))) &&& (65535 : Int32))), .val (.int (Int32.ofNat i1)), .val (.int (Int32.ofNat i2))] [(.int (F_exp q1 q2 q3 q4 wv (Int32.ofNat (2 ^ wN - 1)) (Int32.ofNat dN) ((((Int32.ofNat (SN wN uN (bys q1 q2 q3 q4) dN)) <<< (lv &&& 31))) &&& (65535 : Int32)) (Int32.ofNat i1))), (.int (Int32.ofNat (cN wN uN dN (bys q1 q2 q3 q4) (cb (Int32.ofNat (SN wN uN (bys q1 q2 q3 q4) dN) <<< (lv &&& 31))) i1)))])) _
      have hc447_15 : (Int32.ofNat (cN wN uN dN (bys q1 q2 q3 q4) (cb (Int32.ofNat (SN wN uN (bys q1 q2 q3 q4) dN) <<< (lv &&& 31))) i1)) = (F_exp q1 q2 q3 q4 wv (Int32.ofNat (2 ^ wN - 1)) (Int32.ofNat dN) ((((Int32.ofNat (SN wN uN (bys q1 q2 q3 q4) dN)) <<< (lv &&& 31))) &&& (65535 : Int32)) (Int32.ofNat i1)) := (exp_eq hP q1 q2 q3 q4 _ i1 hi1).symm
      refine Own.go (fun t k => XS.icmpNo X15.here hx rfl (hb hby at_447) rfl (teq hc447_15).2 k) ?_
      show Own.Fin p e below (T15.setTop (mkF m 450 #[.val (.long q1), .second, .val (.long q2), .second, .val (.long q3), .second, .val (.long q4), .second, .val (.int p5), .val (.int p6), .val (.int (p5 &&& (7 : Int32))), .val (.ref oa), .val (.int nv), .val (.int wv), .val (.int pv), .val (.int lv), .val (.int (Int32.ofNat dN)), .val (.ref b1), .val (.ref bS), .val (.int (Int32.ofNat (2 ^ wN - 1))), .val (.int (Int32.ofNat (sum4 32 wN uN q1 q2 q3 q4))), .val (.int ((((Int32.ofNat (SN wN uN (bys q1 q2 q3 q4) dN)) <<< (lv &&& 31))) &&& (65535 : Int32))), .val (.int (Int32.ofNat i1)), .val (.int (Int32.ofNat i2))] [])) _
      refine Own.go (fun t k => XS.aload X15.here hx rfl (hb hby at_450) rfl rfl k) ?_
      show Own.Fin p e below (T15.setTop (mkF m 452 #[.val (.long q1), .second, .val (.long q2), .second, .val (.long q3), .second, .val (.long q4), .second, .val (.int p5), .val (.int p6), .val (.int (p5 &&& (7 : Int32))), .val (.ref oa), .val (.int nv), .val (.int wv), .val (.int pv), .val (.int lv), .val (.int (Int32.ofNat dN)), .val (.ref b1), .val (.ref bS), .val (.int (Int32.ofNat (2 ^ wN - 1))), .val (.int (Int32.ofNat (sum4 32 wN uN q1 q2 q3 q4))), .val (.int ((((Int32.ofNat (SN wN uN (bys q1 q2 q3 q4) dN)) <<< (lv &&& 31))) &&& (65535 : Int32))), .val (.int (Int32.ofNat i1)), .val (.int (Int32.ofNat i2))] [(.ref bS)])) _
      refine Own.go (fun t k => XS.iload X15.here hx rfl (hb hby at_452) rfl k) ?_
      show Own.Fin p e below (T15.setTop (mkF m 454 #[.val (.long q1), .second, .val (.long q2), .second, .val (.long q3), .second, .val (.long q4), .second, .val (.int p5), .val (.int p6), .val (.int (p5 &&& (7 : Int32))), .val (.ref oa), .val (.int nv), .val (.int wv), .val (.int pv), .val (.int lv), .val (.int (Int32.ofNat dN)), .val (.ref b1), .val (.ref bS), .val (.int (Int32.ofNat (2 ^ wN - 1))), .val (.int (Int32.ofNat (sum4 32 wN uN q1 q2 q3 q4))), .val (.int ((((Int32.ofNat (SN wN uN (bys q1 q2 q3 q4) dN)) <<< (lv &&& 31))) &&& (65535 : Int32))), .val (.int (Int32.ofNat i1)), .val (.int (Int32.ofNat i2))] [(.int (Int32.ofNat i2)), (.ref bS)])) _
      refine ldIT (x := (Int32.ofNat (cN wN uN dN (bys q1 q2 q3 q4) (cb (Int32.ofNat (SN wN uN (bys q1 q2 q3 q4) dN) <<< (lv &&& 31))) i2))) X15 hx hZ e15 VS (hb hby at_454) fx5 (by omega) i2 rfl hi2 (hgS i2 hi2) ?_
      show Own.Fin p e below (T15.setTop (mkF m 455 #[.val (.long q1), .second, .val (.long q2), .second, .val (.long q3), .second, .val (.long q4), .second, .val (.int p5), .val (.int p6), .val (.int (p5 &&& (7 : Int32))), .val (.ref oa), .val (.int nv), .val (.int wv), .val (.int pv), .val (.int lv), .val (.int (Int32.ofNat dN)), .val (.ref b1), .val (.ref bS), .val (.int (Int32.ofNat (2 ^ wN - 1))), .val (.int (Int32.ofNat (sum4 32 wN uN q1 q2 q3 q4))), .val (.int ((((Int32.ofNat (SN wN uN (bys q1 q2 q3 q4) dN)) <<< (lv &&& 31))) &&& (65535 : Int32))), .val (.int (Int32.ofNat i1)), .val (.int (Int32.ofNat i2))] [(.int (Int32.ofNat (cN wN uN dN (bys q1 q2 q3 q4) (cb (Int32.ofNat (SN wN uN (bys q1 q2 q3 q4) dN) <<< (lv &&& 31))) i2)))])) _
      refine Own.go (fun t k => XS.lloadN X15.here hx rfl (hb hby at_455) rfl k) ?_
      show Own.Fin p e below (T15.setTop (mkF m 456 #[.val (.long q1), .second, .val (.long q2), .second, .val (.long q3), .second, .val (.long q4), .second, .val (.int p5), .val (.int p6), .val (.int (p5 &&& (7 : Int32))), .val (.ref oa), .val (.int nv), .val (.int wv), .val (.int pv), .val (.int lv), .val (.int (Int32.ofNat dN)), .val (.ref b1), .val (.ref bS), .val (.int (Int32.ofNat (2 ^ wN - 1))), .val (.int (Int32.ofNat (sum4 32 wN uN q1 q2 q3 q4))), .val (.int ((((Int32.ofNat (SN wN uN (bys q1 q2 q3 q4) dN)) <<< (lv &&& 31))) &&& (65535 : Int32))), .val (.int (Int32.ofNat i1)), .val (.int (Int32.ofNat i2))] [(.long q1), (.int (Int32.ofNat (cN wN uN dN (bys q1 q2 q3 q4) (cb (Int32.ofNat (SN wN uN (bys q1 q2 q3 q4) dN) <<< (lv &&& 31))) i2)))])) _
      refine Own.go (fun t k => XS.lloadN X15.here hx rfl (hb hby at_456) rfl k) ?_
      show Own.Fin p e below (T15.setTop (mkF m 457 #[.val (.long q1), .second, .val (.long q2), .second, .val (.long q3), .second, .val (.long q4), .second, .val (.int p5), .val (.int p6), .val (.int (p5 &&& (7 : Int32))), .val (.ref oa), .val (.int nv), .val (.int wv), .val (.int pv), .val (.int lv), .val (.int (Int32.ofNat dN)), .val (.ref b1), .val (.ref bS), .val (.int (Int32.ofNat (2 ^ wN - 1))), .val (.int (Int32.ofNat (sum4 32 wN uN q1 q2 q3 q4))), .val (.int ((((Int32.ofNat (SN wN uN (bys q1 q2 q3 q4) dN)) <<< (lv &&& 31))) &&& (65535 : Int32))), .val (.int (Int32.ofNat i1)), .val (.int (Int32.ofNat i2))] [(.long q2), (.long q1), (.int (Int32.ofNat (cN wN uN dN (bys q1 q2 q3 q4) (cb (Int32.ofNat (SN wN uN (bys q1 q2 q3 q4) dN) <<< (lv &&& 31))) i2)))])) _
      refine Own.go (fun t k => XS.lload X15.here hx rfl (hb hby at_457) rfl k) ?_
      show Own.Fin p e below (T15.setTop (mkF m 459 #[.val (.long q1), .second, .val (.long q2), .second, .val (.long q3), .second, .val (.long q4), .second, .val (.int p5), .val (.int p6), .val (.int (p5 &&& (7 : Int32))), .val (.ref oa), .val (.int nv), .val (.int wv), .val (.int pv), .val (.int lv), .val (.int (Int32.ofNat dN)), .val (.ref b1), .val (.ref bS), .val (.int (Int32.ofNat (2 ^ wN - 1))), .val (.int (Int32.ofNat (sum4 32 wN uN q1 q2 q3 q4))), .val (.int ((((Int32.ofNat (SN wN uN (bys q1 q2 q3 q4) dN)) <<< (lv &&& 31))) &&& (65535 : Int32))), .val (.int (Int32.ofNat i1)), .val (.int (Int32.ofNat i2))] [(.long q3), (.long q2), (.long q1), (.int (Int32.ofNat (cN wN uN dN (bys q1 q2 q3 q4) (cb (Int32.ofNat (SN wN uN (bys q1 q2 q3 q4) dN) <<< (lv &&& 31))) i2)))])) _
      refine Own.go (fun t k => XS.lload X15.here hx rfl (hb hby at_459) rfl k) ?_
      show Own.Fin p e below (T15.setTop (mkF m 461 #[.val (.long q1), .second, .val (.long q2), .second, .val (.long q3), .second, .val (.long q4), .second, .val (.int p5), .val (.int p6), .val (.int (p5 &&& (7 : Int32))), .val (.ref oa), .val (.int nv), .val (.int wv), .val (.int pv), .val (.int lv), .val (.int (Int32.ofNat dN)), .val (.ref b1), .val (.ref bS), .val (.int (Int32.ofNat (2 ^ wN - 1))), .val (.int (Int32.ofNat (sum4 32 wN uN q1 q2 q3 q4))), .val (.int ((((Int32.ofNat (SN wN uN (bys q1 q2 q3 q4) dN)) <<< (lv &&& 31))) &&& (65535 : Int32))), .val (.int (Int32.ofNat i1)), .val (.int (Int32.ofNat i2))] [(.long q4), (.long q3), (.long q2), (.long q1), (.int (Int32.ofNat (cN wN uN dN (bys q1 q2 q3 q4) (cb (Int32.ofNat (SN wN uN (bys q1 q2 q3 q4) dN) <<< (lv &&& 31))) i2)))])) _
      refine Own.go (fun t k => XS.iload X15.here hx rfl (hb hby at_461) rfl k) ?_
      show Own.Fin p e below (T15.setTop (mkF m 463 #[.val (.long q1), .second, .val (.long q2), .second, .val (.long q3), .second, .val (.long q4), .second, .val (.int p5), .val (.int p6), .val (.int (p5 &&& (7 : Int32))), .val (.ref oa), .val (.int nv), .val (.int wv), .val (.int pv), .val (.int lv), .val (.int (Int32.ofNat dN)), .val (.ref b1), .val (.ref bS), .val (.int (Int32.ofNat (2 ^ wN - 1))), .val (.int (Int32.ofNat (sum4 32 wN uN q1 q2 q3 q4))), .val (.int ((((Int32.ofNat (SN wN uN (bys q1 q2 q3 q4) dN)) <<< (lv &&& 31))) &&& (65535 : Int32))), .val (.int (Int32.ofNat i1)), .val (.int (Int32.ofNat i2))] [(.int wv), (.long q4), (.long q3), (.long q2), (.long q1), (.int (Int32.ofNat (cN wN uN dN (bys q1 q2 q3 q4) (cb (Int32.ofNat (SN wN uN (bys q1 q2 q3 q4) dN) <<< (lv &&& 31))) i2)))])) _
      refine Own.go (fun t k => XS.iload X15.here hx rfl (hb hby at_463) rfl k) ?_
      show Own.Fin p e below (T15.setTop (mkF m 465 #[.val (.long q1), .second, .val (.long q2), .second, .val (.long q3), .second, .val (.long q4), .second, .val (.int p5), .val (.int p6), .val (.int (p5 &&& (7 : Int32))), .val (.ref oa), .val (.int nv), .val (.int wv), .val (.int pv), .val (.int lv), .val (.int (Int32.ofNat dN)), .val (.ref b1), .val (.ref bS), .val (.int (Int32.ofNat (2 ^ wN - 1))), .val (.int (Int32.ofNat (sum4 32 wN uN q1 q2 q3 q4))), .val (.int ((((Int32.ofNat (SN wN uN (bys q1 q2 q3 q4) dN)) <<< (lv &&& 31))) &&& (65535 : Int32))), .val (.int (Int32.ofNat i1)), .val (.int (Int32.ofNat i2))] [(.int (Int32.ofNat (2 ^ wN - 1))), (.int wv), (.long q4), (.long q3), (.long q2), (.long q1), (.int (Int32.ofNat (cN wN uN dN (bys q1 q2 q3 q4) (cb (Int32.ofNat (SN wN uN (bys q1 q2 q3 q4) dN) <<< (lv &&& 31))) i2)))])) _
      refine Own.go (fun t k => XS.iload X15.here hx rfl (hb hby at_465) rfl k) ?_
      show Own.Fin p e below (T15.setTop (mkF m 467 #[.val (.long q1), .second, .val (.long q2), .second, .val (.long q3), .second, .val (.long q4), .second, .val (.int p5), .val (.int p6), .val (.int (p5 &&& (7 : Int32))), .val (.ref oa), .val (.int nv), .val (.int wv), .val (.int pv), .val (.int lv), .val (.int (Int32.ofNat dN)), .val (.ref b1), .val (.ref bS), .val (.int (Int32.ofNat (2 ^ wN - 1))), .val (.int (Int32.ofNat (sum4 32 wN uN q1 q2 q3 q4))), .val (.int ((((Int32.ofNat (SN wN uN (bys q1 q2 q3 q4) dN)) <<< (lv &&& 31))) &&& (65535 : Int32))), .val (.int (Int32.ofNat i1)), .val (.int (Int32.ofNat i2))] [(.int (Int32.ofNat dN)), (.int (Int32.ofNat (2 ^ wN - 1))), (.int wv), (.long q4), (.long q3), (.long q2), (.long q1), (.int (Int32.ofNat (cN wN uN dN (bys q1 q2 q3 q4) (cb (Int32.ofNat (SN wN uN (bys q1 q2 q3 q4) dN) <<< (lv &&& 31))) i2)))])) _
      refine Own.go (fun t k => XS.iload X15.here hx rfl (hb hby at_467) rfl k) ?_
      show Own.Fin p e below (T15.setTop (mkF m 469 #[.val (.long q1), .second, .val (.long q2), .second, .val (.long q3), .second, .val (.long q4), .second, .val (.int p5), .val (.int p6), .val (.int (p5 &&& (7 : Int32))), .val (.ref oa), .val (.int nv), .val (.int wv), .val (.int pv), .val (.int lv), .val (.int (Int32.ofNat dN)), .val (.ref b1), .val (.ref bS), .val (.int (Int32.ofNat (2 ^ wN - 1))), .val (.int (Int32.ofNat (sum4 32 wN uN q1 q2 q3 q4))), .val (.int ((((Int32.ofNat (SN wN uN (bys q1 q2 q3 q4) dN)) <<< (lv &&& 31))) &&& (65535 : Int32))), .val (.int (Int32.ofNat i1)), .val (.int (Int32.ofNat i2))] [(.int ((((Int32.ofNat (SN wN uN (bys q1 q2 q3 q4) dN)) <<< (lv &&& 31))) &&& (65535 : Int32))), (.int (Int32.ofNat dN)), (.int (Int32.ofNat (2 ^ wN - 1))), (.int wv), (.long q4), (.long q3), (.long q2), (.long q1), (.int (Int32.ofNat (cN wN uN dN (bys q1 q2 q3 q4) (cb (Int32.ofNat (SN wN uN (bys q1 q2 q3 q4) dN) <<< (lv &&& 31))) i2)))])) _
      refine Own.go (fun t k => XS.iload X15.here hx rfl (hb hby at_469) rfl k) ?_
      show Own.Fin p e below (T15.setTop (mkF m 471 #[.val (.long q1), .second, .val (.long q2), .second, .val (.long q3), .second, .val (.long q4), .second, .val (.int p5), .val (.int p6), .val (.int (p5 &&& (7 : Int32))), .val (.ref oa), .val (.int nv), .val (.int wv), .val (.int pv), .val (.int lv), .val (.int (Int32.ofNat dN)), .val (.ref b1), .val (.ref bS), .val (.int (Int32.ofNat (2 ^ wN - 1))), .val (.int (Int32.ofNat (sum4 32 wN uN q1 q2 q3 q4))), .val (.int ((((Int32.ofNat (SN wN uN (bys q1 q2 q3 q4) dN)) <<< (lv &&& 31))) &&& (65535 : Int32))), .val (.int (Int32.ofNat i1)), .val (.int (Int32.ofNat i2))] [(.int (Int32.ofNat i2)), (.int ((((Int32.ofNat (SN wN uN (bys q1 q2 q3 q4) dN)) <<< (lv &&& 31))) &&& (65535 : Int32))), (.int (Int32.ofNat dN)), (.int (Int32.ofNat (2 ^ wN - 1))), (.int wv), (.long q4), (.long q3), (.long q2), (.long q1), (.int (Int32.ofNat (cN wN uN dN (bys q1 q2 q3 q4) (cb (Int32.ofNat (SN wN uN (bys q1 q2 q3 q4) dN) <<< (lv &&& 31))) i2)))])) _
      refine Own.cS X15 hx hZ hown (hw _ (List.mem_of_getElem? (i := 33) rfl)) (hw _ (List.mem_of_getElem? (i := 34) rfl)) (hw _ (List.mem_of_getElem? (i := 6) rfl)) (hw _ (List.mem_of_getElem? (i := 35) rfl)) (by decide) (rm5 l Z a0 hw [] q1 q2 q3 q4 wv (Int32.ofNat (2 ^ wN - 1)) (Int32.ofNat dN) ((((Int32.ofNat (SN wN uN (bys q1 q2 q3 q4) dN)) <<< (lv &&& 31))) &&& (65535 : Int32)) (Int32.ofNat i2) T8.heap n0 Z8 ) (by decide) (W := 1) (by decide) (argsL := [(.long q1), (.long q2), (.long q3), (.long q4), (.int wv), (.int (Int32.ofNat (2 ^ wN - 1))), (.int (Int32.ofNat dN)), (.int ((((Int32.ofNat (SN wN uN (bys q1 q2 q3 q4) dN)) <<< (lv &&& 31))) &&& (65535 : Int32))), (.int (Int32.ofNat i2))]) (rest := [(.int (Int32.ofNat (cN wN uN dN (bys q1 q2 q3 q4) (cb (Int32.ofNat (SN wN uN (bys q1 q2 q3 q4) dN) <<< (lv &&& 31))) i2)))]) (by rw [hml]; rfl) (lenOf pd_4 rfl) rfl (Nat.le_of_eq rfl) (hb hby at_471) e15 (by decide) (by decide) ?_
      intro T17 L17 v17 X17 hQ17
      obtain ⟨rfl, N17q, e17⟩ := hQ17
      have N17 := Fr.app N15 N17q
      show Own.Fin p e below (T17.setTop (mkF m 474 #[.val (.long q1), .second, .val (.long q2), .second, .val (.long q3), .second, .val (.long q4), .second, .val (.int p5), .val (.int p6), .val (.int (p5 &&& (7 : Int32))), .val (.ref oa), .val (.int nv), .val (.int wv), .val (.int pv), .val (.int lv), .val (.int (Int32.ofNat dN)), .val (.ref b1), .val (.ref bS), .val (.int (Int32.ofNat (2 ^ wN - 1))), .val (.int (Int32.ofNat (sum4 32 wN uN q1 q2 q3 q4))), .val (.int ((((Int32.ofNat (SN wN uN (bys q1 q2 q3 q4) dN)) <<< (lv &&& 31))) &&& (65535 : Int32))), .val (.int (Int32.ofNat i1)), .val (.int (Int32.ofNat i2))] [(.int (F_exp q1 q2 q3 q4 wv (Int32.ofNat (2 ^ wN - 1)) (Int32.ofNat dN) ((((Int32.ofNat (SN wN uN (bys q1 q2 q3 q4) dN)) <<< (lv &&& 31))) &&& (65535 : Int32)) (Int32.ofNat i2))), (.int (Int32.ofNat (cN wN uN dN (bys q1 q2 q3 q4) (cb (Int32.ofNat (SN wN uN (bys q1 q2 q3 q4) dN) <<< (lv &&& 31))) i2)))])) _
      have hc474_17 : (Int32.ofNat (cN wN uN dN (bys q1 q2 q3 q4) (cb (Int32.ofNat (SN wN uN (bys q1 q2 q3 q4) dN) <<< (lv &&& 31))) i2)) = (F_exp q1 q2 q3 q4 wv (Int32.ofNat (2 ^ wN - 1)) (Int32.ofNat dN) ((((Int32.ofNat (SN wN uN (bys q1 q2 q3 q4) dN)) <<< (lv &&& 31))) &&& (65535 : Int32)) (Int32.ofNat i2)) := (exp_eq hP q1 q2 q3 q4 _ i2 hi2).symm
      refine Own.go (fun t k => XS.icmpNo X17.here hx rfl (hb hby at_474) rfl (teq hc474_17).2 k) ?_
      show Own.Fin p e below (T17.setTop (mkF m 477 #[.val (.long q1), .second, .val (.long q2), .second, .val (.long q3), .second, .val (.long q4), .second, .val (.int p5), .val (.int p6), .val (.int (p5 &&& (7 : Int32))), .val (.ref oa), .val (.int nv), .val (.int wv), .val (.int pv), .val (.int lv), .val (.int (Int32.ofNat dN)), .val (.ref b1), .val (.ref bS), .val (.int (Int32.ofNat (2 ^ wN - 1))), .val (.int (Int32.ofNat (sum4 32 wN uN q1 q2 q3 q4))), .val (.int ((((Int32.ofNat (SN wN uN (bys q1 q2 q3 q4) dN)) <<< (lv &&& 31))) &&& (65535 : Int32))), .val (.int (Int32.ofNat i1)), .val (.int (Int32.ofNat i2))] [])) _
      refine Own.go (fun t k => XS.iconst X17.here hx rfl (hb hby at_477) k) ?_
      show Own.Fin p e below (T17.setTop (mkF m 478 #[.val (.long q1), .second, .val (.long q2), .second, .val (.long q3), .second, .val (.long q4), .second, .val (.int p5), .val (.int p6), .val (.int (p5 &&& (7 : Int32))), .val (.ref oa), .val (.int nv), .val (.int wv), .val (.int pv), .val (.int lv), .val (.int (Int32.ofNat dN)), .val (.ref b1), .val (.ref bS), .val (.int (Int32.ofNat (2 ^ wN - 1))), .val (.int (Int32.ofNat (sum4 32 wN uN q1 q2 q3 q4))), .val (.int ((((Int32.ofNat (SN wN uN (bys q1 q2 q3 q4) dN)) <<< (lv &&& 31))) &&& (65535 : Int32))), .val (.int (Int32.ofNat i1)), .val (.int (Int32.ofNat i2))] [(.int (1 : Int32))])) _
      refine Own.go (fun t k => XS.goto X17.here hx rfl (pc0 := 478) (pc' := 482) rfl (hb hby at_478) (by decide) (by decide) k) ?_
      show Own.Fin p e below (T17.setTop (mkF m 482 #[.val (.long q1), .second, .val (.long q2), .second, .val (.long q3), .second, .val (.long q4), .second, .val (.int p5), .val (.int p6), .val (.int (p5 &&& (7 : Int32))), .val (.ref oa), .val (.int nv), .val (.int wv), .val (.int pv), .val (.int lv), .val (.int (Int32.ofNat dN)), .val (.ref b1), .val (.ref bS), .val (.int (Int32.ofNat (2 ^ wN - 1))), .val (.int (Int32.ofNat (sum4 32 wN uN q1 q2 q3 q4))), .val (.int ((((Int32.ofNat (SN wN uN (bys q1 q2 q3 q4) dN)) <<< (lv &&& 31))) &&& (65535 : Int32))), .val (.int (Int32.ofNat i1)), .val (.int (Int32.ofNat i2))] [(.int (1 : Int32))])) _
      refine Own.retN X17 hx Bd.notSynchronized (t := .boolean) Bd.returns (by simp) (hb hby at_482) (by decide) (by decide) ?_
      exact ⟨rfl, N17⟩
    · skip
      refine Own.go (fun t k => XS.icmpYes X5.here hx rfl (pc0 := 300) (pc' := 312) rfl (hb hby at_300) rfl (feq hc300_5).2 (by decide) (by decide) k) ?_
      show Own.Fin p e below (T5.setTop (mkF m 312 #[.val (.long q1), .second, .val (.long q2), .second, .val (.long q3), .second, .val (.long q4), .second, .val (.int p5), .val (.int p6), .val (.int (p5 &&& (7 : Int32))), .val (.ref oa), .val (.int nv), .val (.int wv), .val (.int pv), .val (.int lv), .val (.int (Int32.ofNat dN)), .val (.ref b1), .unset, .unset, .unset, .unset, .unset, .unset] [])) _
      refine Own.go (fun t k => XS.aload X5.here hx rfl (hb hby at_312) rfl rfl k) ?_
      show Own.Fin p e below (T5.setTop (mkF m 314 #[.val (.long q1), .second, .val (.long q2), .second, .val (.long q3), .second, .val (.long q4), .second, .val (.int p5), .val (.int p6), .val (.int (p5 &&& (7 : Int32))), .val (.ref oa), .val (.int nv), .val (.int wv), .val (.int pv), .val (.int lv), .val (.int (Int32.ofNat dN)), .val (.ref b1), .unset, .unset, .unset, .unset, .unset, .unset] [(.ref oa)])) _
      refine Own.go (fun t k => XS.aload X5.here hx rfl (hb hby at_314) rfl rfl k) ?_
      show Own.Fin p e below (T5.setTop (mkF m 316 #[.val (.long q1), .second, .val (.long q2), .second, .val (.long q3), .second, .val (.long q4), .second, .val (.int p5), .val (.int p6), .val (.int (p5 &&& (7 : Int32))), .val (.ref oa), .val (.int nv), .val (.int wv), .val (.int pv), .val (.int lv), .val (.int (Int32.ofNat dN)), .val (.ref b1), .unset, .unset, .unset, .unset, .unset, .unset] [(.ref b1), (.ref oa)])) _
      have hNv : N = 24 := fx13 hc300_5
      have VB19 : Arv Z T5.heap b1 k1 .byte nv (tab N (fun k => Value.int (sb ((bys q1 q2 q3 q4) k)))) (.int (0 : Int32)) := Arv.pad V5 (tab_pad fun i hi => (bys_24 (d := q4) P3 P4 P5 i (by rw [hNv] at hi; exact hi)).symm)
      refine Own.cV X5 hx hZ hown (hw _ (List.mem_of_getElem? (i := 8) rfl)) (hw _ (List.mem_of_getElem? (i := 9) rfl)) (notFace_of_selects (args := #[]) (mvT hZ (hw _ (List.mem_of_getElem? (i := 11) rfl)))) (hw _ (List.mem_of_getElem? (i := 11) rfl)) (hw _ (List.mem_of_getElem? (i := 10) rfl)) (hw _ (List.mem_of_getElem? (i := 1) rfl)) (hw _ (List.mem_of_getElem? (i := 12) rfl)) (by decide) (rm2 l Z a0 hw [] oa b1 wv nv pv lv wN uN N dN pN (bys q1 q2 q3 q4) k1 T5.heap n0 Z5 O5 E0 F_w F_n F_p F_ls VB19 hP (bys_lt _ _ _ _)) (by decide) (W := 0) (by decide) (argsL := [(.ref b1)]) (rest := []) (E0.ext O5.2) (by rw [hml]; rfl) (lenOf pd_2 rfl) rfl (Nat.le_of_eq rfl) (hb hby at_316) rfl (by decide) (by decide) ?_
      intro T19 L19 v19 X19 hQ19
      obtain ⟨bS, kS, gS, geS, rfl, N19q, Z19, VS, hgS⟩ := hQ19
      have N19 := Fr.app N5 N19q
      show Own.Fin p e below (T19.setTop (mkF m 319 #[.val (.long q1), .second, .val (.long q2), .second, .val (.long q3), .second, .val (.long q4), .second, .val (.int p5), .val (.int p6), .val (.int (p5 &&& (7 : Int32))), .val (.ref oa), .val (.int nv), .val (.int wv), .val (.int pv), .val (.int lv), .val (.int (Int32.ofNat dN)), .val (.ref b1), .unset, .unset, .unset, .unset, .unset, .unset] [(.ref bS)])) _
      refine Own.go (fun t k => XS.astore X19.here hx rfl (hb hby at_319) rfl rfl (l' := #[.val (.long q1), .second, .val (.long q2), .second, .val (.long q3), .second, .val (.long q4), .second, .val (.int p5), .val (.int p6), .val (.int (p5 &&& (7 : Int32))), .val (.ref oa), .val (.int nv), .val (.int wv), .val (.int pv), .val (.int lv), .val (.int (Int32.ofNat dN)), .val (.ref b1), .val (.ref bS), .unset, .unset, .unset, .unset, .unset]) rfl k) ?_
      show Own.Fin p e below (T19.setTop (mkF m 321 #[.val (.long q1), .second, .val (.long q2), .second, .val (.long q3), .second, .val (.long q4), .second, .val (.int p5), .val (.int p6), .val (.int (p5 &&& (7 : Int32))), .val (.ref oa), .val (.int nv), .val (.int wv), .val (.int pv), .val (.int lv), .val (.int (Int32.ofNat dN)), .val (.ref b1), .val (.ref bS), .unset, .unset, .unset, .unset, .unset] [])) _
      refine Own.go (fun t k => XS.aload X19.here hx rfl (hb hby at_321) rfl rfl k) ?_
      show Own.Fin p e below (T19.setTop (mkF m 323 #[.val (.long q1), .second, .val (.long q2), .second, .val (.long q3), .second, .val (.long q4), .second, .val (.int p5), .val (.int p6), .val (.int (p5 &&& (7 : Int32))), .val (.ref oa), .val (.int nv), .val (.int wv), .val (.int pv), .val (.int lv), .val (.int (Int32.ofNat dN)), .val (.ref b1), .val (.ref bS), .unset, .unset, .unset, .unset, .unset] [(.ref bS)])) _
      refine Own.alen X19 hx hZ rfl VS (hb hby at_323) ?_
      show Own.Fin p e below (T19.setTop (mkF m 324 #[.val (.long q1), .second, .val (.long q2), .second, .val (.long q3), .second, .val (.long q4), .second, .val (.int p5), .val (.int p6), .val (.int (p5 &&& (7 : Int32))), .val (.ref oa), .val (.int nv), .val (.int wv), .val (.int pv), .val (.int lv), .val (.int (Int32.ofNat dN)), .val (.ref b1), .val (.ref bS), .unset, .unset, .unset, .unset, .unset] [(.int pv)])) _
      refine Own.go (fun t k => XS.iload X19.here hx rfl (hb hby at_324) rfl k) ?_
      show Own.Fin p e below (T19.setTop (mkF m 326 #[.val (.long q1), .second, .val (.long q2), .second, .val (.long q3), .second, .val (.long q4), .second, .val (.int p5), .val (.int p6), .val (.int (p5 &&& (7 : Int32))), .val (.ref oa), .val (.int nv), .val (.int wv), .val (.int pv), .val (.int lv), .val (.int (Int32.ofNat dN)), .val (.ref b1), .val (.ref bS), .unset, .unset, .unset, .unset, .unset] [(.int pv), (.int pv)])) _
      have hc326_19 : pv = pv := rfl
      refine Own.go (fun t k => XS.icmpYes X19.here hx rfl (pc0 := 326) (pc' := 331) rfl (hb hby at_326) rfl (teq hc326_19).1 (by decide) (by decide) k) ?_
      show Own.Fin p e below (T19.setTop (mkF m 331 #[.val (.long q1), .second, .val (.long q2), .second, .val (.long q3), .second, .val (.long q4), .second, .val (.int p5), .val (.int p6), .val (.int (p5 &&& (7 : Int32))), .val (.ref oa), .val (.int nv), .val (.int wv), .val (.int pv), .val (.int lv), .val (.int (Int32.ofNat dN)), .val (.ref b1), .val (.ref bS), .unset, .unset, .unset, .unset, .unset] [])) _
      refine Own.go (fun t k => XS.iconst X19.here hx rfl (hb hby at_331) k) ?_
      show Own.Fin p e below (T19.setTop (mkF m 332 #[.val (.long q1), .second, .val (.long q2), .second, .val (.long q3), .second, .val (.long q4), .second, .val (.int p5), .val (.int p6), .val (.int (p5 &&& (7 : Int32))), .val (.ref oa), .val (.int nv), .val (.int wv), .val (.int pv), .val (.int lv), .val (.int (Int32.ofNat dN)), .val (.ref b1), .val (.ref bS), .unset, .unset, .unset, .unset, .unset] [(.int (1 : Int32))])) _
      refine Own.go (fun t k => XS.iload X19.here hx rfl (hb hby at_332) rfl k) ?_
      show Own.Fin p e below (T19.setTop (mkF m 334 #[.val (.long q1), .second, .val (.long q2), .second, .val (.long q3), .second, .val (.long q4), .second, .val (.int p5), .val (.int p6), .val (.int (p5 &&& (7 : Int32))), .val (.ref oa), .val (.int nv), .val (.int wv), .val (.int pv), .val (.int lv), .val (.int (Int32.ofNat dN)), .val (.ref b1), .val (.ref bS), .unset, .unset, .unset, .unset, .unset] [(.int wv), (.int (1 : Int32))])) _
      refine Own.go (fun t k => XS.ishl X19.here hx rfl (hb hby at_334) rfl k) ?_
      show Own.Fin p e below (T19.setTop (mkF m 335 #[.val (.long q1), .second, .val (.long q2), .second, .val (.long q3), .second, .val (.long q4), .second, .val (.int p5), .val (.int p6), .val (.int (p5 &&& (7 : Int32))), .val (.ref oa), .val (.int nv), .val (.int wv), .val (.int pv), .val (.int lv), .val (.int (Int32.ofNat dN)), .val (.ref b1), .val (.ref bS), .unset, .unset, .unset, .unset, .unset] [(.int (((1 : Int32) <<< (wv &&& 31))))])) _
      refine Own.go (fun t k => XS.iconst X19.here hx rfl (hb hby at_335) k) ?_
      show Own.Fin p e below (T19.setTop (mkF m 336 #[.val (.long q1), .second, .val (.long q2), .second, .val (.long q3), .second, .val (.long q4), .second, .val (.int p5), .val (.int p6), .val (.int (p5 &&& (7 : Int32))), .val (.ref oa), .val (.int nv), .val (.int wv), .val (.int pv), .val (.int lv), .val (.int (Int32.ofNat dN)), .val (.ref b1), .val (.ref bS), .unset, .unset, .unset, .unset, .unset] [(.int (1 : Int32)), (.int (((1 : Int32) <<< (wv &&& 31))))])) _
      refine Own.go (fun t k => XS.isub X19.here hx rfl (hb hby at_336) rfl k) ?_
      show Own.Fin p e below (T19.setTop (mkF m 337 #[.val (.long q1), .second, .val (.long q2), .second, .val (.long q3), .second, .val (.long q4), .second, .val (.int p5), .val (.int p6), .val (.int (p5 &&& (7 : Int32))), .val (.ref oa), .val (.int nv), .val (.int wv), .val (.int pv), .val (.int lv), .val (.int (Int32.ofNat dN)), .val (.ref b1), .val (.ref bS), .unset, .unset, .unset, .unset, .unset] [(.int ((((1 : Int32) <<< (wv &&& 31))) - (1 : Int32)))])) _
      rw [show ((((1 : Int32) <<< (wv &&& 31))) - (1 : Int32)) = (Int32.ofNat (2 ^ wN - 1)) from fx7]
      show Own.Fin p e below (T19.setTop (mkF m 337 #[.val (.long q1), .second, .val (.long q2), .second, .val (.long q3), .second, .val (.long q4), .second, .val (.int p5), .val (.int p6), .val (.int (p5 &&& (7 : Int32))), .val (.ref oa), .val (.int nv), .val (.int wv), .val (.int pv), .val (.int lv), .val (.int (Int32.ofNat dN)), .val (.ref b1), .val (.ref bS), .unset, .unset, .unset, .unset, .unset] [(.int (Int32.ofNat (2 ^ wN - 1)))])) _
      refine Own.go (fun t k => XS.istore X19.here hx rfl (hb hby at_337) rfl (l' := #[.val (.long q1), .second, .val (.long q2), .second, .val (.long q3), .second, .val (.long q4), .second, .val (.int p5), .val (.int p6), .val (.int (p5 &&& (7 : Int32))), .val (.ref oa), .val (.int nv), .val (.int wv), .val (.int pv), .val (.int lv), .val (.int (Int32.ofNat dN)), .val (.ref b1), .val (.ref bS), .val (.int (Int32.ofNat (2 ^ wN - 1))), .unset, .unset, .unset, .unset]) rfl k) ?_
      show Own.Fin p e below (T19.setTop (mkF m 339 #[.val (.long q1), .second, .val (.long q2), .second, .val (.long q3), .second, .val (.long q4), .second, .val (.int p5), .val (.int p6), .val (.int (p5 &&& (7 : Int32))), .val (.ref oa), .val (.int nv), .val (.int wv), .val (.int pv), .val (.int lv), .val (.int (Int32.ofNat dN)), .val (.ref b1), .val (.ref bS), .val (.int (Int32.ofNat (2 ^ wN - 1))), .unset, .unset, .unset, .unset] [])) _
      refine Own.go (fun t k => XS.lloadN X19.here hx rfl (hb hby at_339) rfl k) ?_
      show Own.Fin p e below (T19.setTop (mkF m 340 #[.val (.long q1), .second, .val (.long q2), .second, .val (.long q3), .second, .val (.long q4), .second, .val (.int p5), .val (.int p6), .val (.int (p5 &&& (7 : Int32))), .val (.ref oa), .val (.int nv), .val (.int wv), .val (.int pv), .val (.int lv), .val (.int (Int32.ofNat dN)), .val (.ref b1), .val (.ref bS), .val (.int (Int32.ofNat (2 ^ wN - 1))), .unset, .unset, .unset, .unset] [(.long q1)])) _
      refine Own.go (fun t k => XS.iload X19.here hx rfl (hb hby at_340) rfl k) ?_
      show Own.Fin p e below (T19.setTop (mkF m 342 #[.val (.long q1), .second, .val (.long q2), .second, .val (.long q3), .second, .val (.long q4), .second, .val (.int p5), .val (.int p6), .val (.int (p5 &&& (7 : Int32))), .val (.ref oa), .val (.int nv), .val (.int wv), .val (.int pv), .val (.int lv), .val (.int (Int32.ofNat dN)), .val (.ref b1), .val (.ref bS), .val (.int (Int32.ofNat (2 ^ wN - 1))), .unset, .unset, .unset, .unset] [(.int wv), (.long q1)])) _
      refine Own.cS X19 hx hZ hown (hw _ (List.mem_of_getElem? (i := 26) rfl)) (hw _ (List.mem_of_getElem? (i := 27) rfl)) (hw _ (List.mem_of_getElem? (i := 6) rfl)) (hw _ (List.mem_of_getElem? (i := 28) rfl)) (by decide) (rm4 l Z a0 hw [] q1 wv T19.heap n0 Z19 ) (by decide) (W := 0) (by decide) (argsL := [(.long q1), (.int wv)]) (rest := []) (by rw [hml]; rfl) (lenOf pd_3 rfl) rfl (Nat.le_of_eq rfl) (hb hby at_342) rfl (by decide) (by decide) ?_
      intro T21 L21 v21 X21 hQ21
      obtain ⟨rfl, N21q, e21⟩ := hQ21
      have N21 := Fr.app N19 N21q
      show Own.Fin p e below (T21.setTop (mkF m 345 #[.val (.long q1), .second, .val (.long q2), .second, .val (.long q3), .second, .val (.long q4), .second, .val (.int p5), .val (.int p6), .val (.int (p5 &&& (7 : Int32))), .val (.ref oa), .val (.int nv), .val (.int wv), .val (.int pv), .val (.int lv), .val (.int (Int32.ofNat dN)), .val (.ref b1), .val (.ref bS), .val (.int (Int32.ofNat (2 ^ wN - 1))), .unset, .unset, .unset, .unset] [(.int (F_fs q1 wv))])) _
      refine Own.go (fun t k => XS.lloadN X21.here hx rfl (hb hby at_345) rfl k) ?_
      show Own.Fin p e below (T21.setTop (mkF m 346 #[.val (.long q1), .second, .val (.long q2), .second, .val (.long q3), .second, .val (.long q4), .second, .val (.int p5), .val (.int p6), .val (.int (p5 &&& (7 : Int32))), .val (.ref oa), .val (.int nv), .val (.int wv), .val (.int pv), .val (.int lv), .val (.int (Int32.ofNat dN)), .val (.ref b1), .val (.ref bS), .val (.int (Int32.ofNat (2 ^ wN - 1))), .unset, .unset, .unset, .unset] [(.long q2), (.int (F_fs q1 wv))])) _
      refine Own.go (fun t k => XS.iload X21.here hx rfl (hb hby at_346) rfl k) ?_
      show Own.Fin p e below (T21.setTop (mkF m 348 #[.val (.long q1), .second, .val (.long q2), .second, .val (.long q3), .second, .val (.long q4), .second, .val (.int p5), .val (.int p6), .val (.int (p5 &&& (7 : Int32))), .val (.ref oa), .val (.int nv), .val (.int wv), .val (.int pv), .val (.int lv), .val (.int (Int32.ofNat dN)), .val (.ref b1), .val (.ref bS), .val (.int (Int32.ofNat (2 ^ wN - 1))), .unset, .unset, .unset, .unset] [(.int wv), (.long q2), (.int (F_fs q1 wv))])) _
      refine Own.cS X21 hx hZ hown (hw _ (List.mem_of_getElem? (i := 26) rfl)) (hw _ (List.mem_of_getElem? (i := 27) rfl)) (hw _ (List.mem_of_getElem? (i := 6) rfl)) (hw _ (List.mem_of_getElem? (i := 28) rfl)) (by decide) (rm4 l Z a0 hw [] q2 wv T19.heap n0 Z19 ) (by decide) (W := 1) (by decide) (argsL := [(.long q2), (.int wv)]) (rest := [(.int (F_fs q1 wv))]) (by rw [hml]; rfl) (lenOf pd_3 rfl) rfl (Nat.le_of_eq rfl) (hb hby at_348) e21 (by decide) (by decide) ?_
      intro T22 L22 v22 X22 hQ22
      obtain ⟨rfl, N22q, e22⟩ := hQ22
      have N22 := Fr.app N21 N22q
      show Own.Fin p e below (T22.setTop (mkF m 351 #[.val (.long q1), .second, .val (.long q2), .second, .val (.long q3), .second, .val (.long q4), .second, .val (.int p5), .val (.int p6), .val (.int (p5 &&& (7 : Int32))), .val (.ref oa), .val (.int nv), .val (.int wv), .val (.int pv), .val (.int lv), .val (.int (Int32.ofNat dN)), .val (.ref b1), .val (.ref bS), .val (.int (Int32.ofNat (2 ^ wN - 1))), .unset, .unset, .unset, .unset] [(.int (F_fs q2 wv)), (.int (F_fs q1 wv))])) _
      refine Own.go (fun t k => XS.iadd X22.here hx rfl (hb hby at_351) rfl k) ?_
      show Own.Fin p e below (T22.setTop (mkF m 352 #[.val (.long q1), .second, .val (.long q2), .second, .val (.long q3), .second, .val (.long q4), .second, .val (.int p5), .val (.int p6), .val (.int (p5 &&& (7 : Int32))), .val (.ref oa), .val (.int nv), .val (.int wv), .val (.int pv), .val (.int lv), .val (.int (Int32.ofNat dN)), .val (.ref b1), .val (.ref bS), .val (.int (Int32.ofNat (2 ^ wN - 1))), .unset, .unset, .unset, .unset] [(.int ((F_fs q1 wv) + (F_fs q2 wv)))])) _
      refine Own.go (fun t k => XS.lload X22.here hx rfl (hb hby at_352) rfl k) ?_
      show Own.Fin p e below (T22.setTop (mkF m 354 #[.val (.long q1), .second, .val (.long q2), .second, .val (.long q3), .second, .val (.long q4), .second, .val (.int p5), .val (.int p6), .val (.int (p5 &&& (7 : Int32))), .val (.ref oa), .val (.int nv), .val (.int wv), .val (.int pv), .val (.int lv), .val (.int (Int32.ofNat dN)), .val (.ref b1), .val (.ref bS), .val (.int (Int32.ofNat (2 ^ wN - 1))), .unset, .unset, .unset, .unset] [(.long q3), (.int ((F_fs q1 wv) + (F_fs q2 wv)))])) _
      refine Own.go (fun t k => XS.iload X22.here hx rfl (hb hby at_354) rfl k) ?_
      show Own.Fin p e below (T22.setTop (mkF m 356 #[.val (.long q1), .second, .val (.long q2), .second, .val (.long q3), .second, .val (.long q4), .second, .val (.int p5), .val (.int p6), .val (.int (p5 &&& (7 : Int32))), .val (.ref oa), .val (.int nv), .val (.int wv), .val (.int pv), .val (.int lv), .val (.int (Int32.ofNat dN)), .val (.ref b1), .val (.ref bS), .val (.int (Int32.ofNat (2 ^ wN - 1))), .unset, .unset, .unset, .unset] [(.int wv), (.long q3), (.int ((F_fs q1 wv) + (F_fs q2 wv)))])) _
      refine Own.cS X22 hx hZ hown (hw _ (List.mem_of_getElem? (i := 26) rfl)) (hw _ (List.mem_of_getElem? (i := 27) rfl)) (hw _ (List.mem_of_getElem? (i := 6) rfl)) (hw _ (List.mem_of_getElem? (i := 28) rfl)) (by decide) (rm4 l Z a0 hw [] q3 wv T19.heap n0 Z19 ) (by decide) (W := 1) (by decide) (argsL := [(.long q3), (.int wv)]) (rest := [(.int ((F_fs q1 wv) + (F_fs q2 wv)))]) (by rw [hml]; rfl) (lenOf pd_3 rfl) rfl (Nat.le_of_eq rfl) (hb hby at_356) e22 (by decide) (by decide) ?_
      intro T23 L23 v23 X23 hQ23
      obtain ⟨rfl, N23q, e23⟩ := hQ23
      have N23 := Fr.app N22 N23q
      show Own.Fin p e below (T23.setTop (mkF m 359 #[.val (.long q1), .second, .val (.long q2), .second, .val (.long q3), .second, .val (.long q4), .second, .val (.int p5), .val (.int p6), .val (.int (p5 &&& (7 : Int32))), .val (.ref oa), .val (.int nv), .val (.int wv), .val (.int pv), .val (.int lv), .val (.int (Int32.ofNat dN)), .val (.ref b1), .val (.ref bS), .val (.int (Int32.ofNat (2 ^ wN - 1))), .unset, .unset, .unset, .unset] [(.int (F_fs q3 wv)), (.int ((F_fs q1 wv) + (F_fs q2 wv)))])) _
      refine Own.go (fun t k => XS.iadd X23.here hx rfl (hb hby at_359) rfl k) ?_
      show Own.Fin p e below (T23.setTop (mkF m 360 #[.val (.long q1), .second, .val (.long q2), .second, .val (.long q3), .second, .val (.long q4), .second, .val (.int p5), .val (.int p6), .val (.int (p5 &&& (7 : Int32))), .val (.ref oa), .val (.int nv), .val (.int wv), .val (.int pv), .val (.int lv), .val (.int (Int32.ofNat dN)), .val (.ref b1), .val (.ref bS), .val (.int (Int32.ofNat (2 ^ wN - 1))), .unset, .unset, .unset, .unset] [(.int (((F_fs q1 wv) + (F_fs q2 wv)) + (F_fs q3 wv)))])) _
      refine Own.go (fun t k => XS.iload X23.here hx rfl (hb hby at_360) rfl k) ?_
      show Own.Fin p e below (T23.setTop (mkF m 362 #[.val (.long q1), .second, .val (.long q2), .second, .val (.long q3), .second, .val (.long q4), .second, .val (.int p5), .val (.int p6), .val (.int (p5 &&& (7 : Int32))), .val (.ref oa), .val (.int nv), .val (.int wv), .val (.int pv), .val (.int lv), .val (.int (Int32.ofNat dN)), .val (.ref b1), .val (.ref bS), .val (.int (Int32.ofNat (2 ^ wN - 1))), .unset, .unset, .unset, .unset] [(.int nv), (.int (((F_fs q1 wv) + (F_fs q2 wv)) + (F_fs q3 wv)))])) _
      refine Own.go (fun t k => XS.bipush X23.here hx rfl (hb hby at_362) k) ?_
      show Own.Fin p e below (T23.setTop (mkF m 364 #[.val (.long q1), .second, .val (.long q2), .second, .val (.long q3), .second, .val (.long q4), .second, .val (.int p5), .val (.int p6), .val (.int (p5 &&& (7 : Int32))), .val (.ref oa), .val (.int nv), .val (.int wv), .val (.int pv), .val (.int lv), .val (.int (Int32.ofNat dN)), .val (.ref b1), .val (.ref bS), .val (.int (Int32.ofNat (2 ^ wN - 1))), .unset, .unset, .unset, .unset] [(.int (32 : Int32)), (.int nv), (.int (((F_fs q1 wv) + (F_fs q2 wv)) + (F_fs q3 wv)))])) _
      have hc364_23 : ¬ (nv = (32 : Int32)) := hc300_5
      refine Own.go (fun t k => XS.icmpYes X23.here hx rfl (pc0 := 364) (pc' := 377) rfl (hb hby at_364) rfl (feq hc364_23).2 (by decide) (by decide) k) ?_
      show Own.Fin p e below (T23.setTop (mkF m 377 #[.val (.long q1), .second, .val (.long q2), .second, .val (.long q3), .second, .val (.long q4), .second, .val (.int p5), .val (.int p6), .val (.int (p5 &&& (7 : Int32))), .val (.ref oa), .val (.int nv), .val (.int wv), .val (.int pv), .val (.int lv), .val (.int (Int32.ofNat dN)), .val (.ref b1), .val (.ref bS), .val (.int (Int32.ofNat (2 ^ wN - 1))), .unset, .unset, .unset, .unset] [(.int (((F_fs q1 wv) + (F_fs q2 wv)) + (F_fs q3 wv)))])) _
      refine Own.go (fun t k => XS.iconst X23.here hx rfl (hb hby at_377) k) ?_
      show Own.Fin p e below (T23.setTop (mkF m 378 #[.val (.long q1), .second, .val (.long q2), .second, .val (.long q3), .second, .val (.long q4), .second, .val (.int p5), .val (.int p6), .val (.int (p5 &&& (7 : Int32))), .val (.ref oa), .val (.int nv), .val (.int wv), .val (.int pv), .val (.int lv), .val (.int (Int32.ofNat dN)), .val (.ref b1), .val (.ref bS), .val (.int (Int32.ofNat (2 ^ wN - 1))), .unset, .unset, .unset, .unset] [(.int (0 : Int32)), (.int (((F_fs q1 wv) + (F_fs q2 wv)) + (F_fs q3 wv)))])) _
      refine Own.go (fun t k => XS.iadd X23.here hx rfl (hb hby at_378) rfl k) ?_
      show Own.Fin p e below (T23.setTop (mkF m 379 #[.val (.long q1), .second, .val (.long q2), .second, .val (.long q3), .second, .val (.long q4), .second, .val (.int p5), .val (.int p6), .val (.int (p5 &&& (7 : Int32))), .val (.ref oa), .val (.int nv), .val (.int wv), .val (.int pv), .val (.int lv), .val (.int (Int32.ofNat dN)), .val (.ref b1), .val (.ref bS), .val (.int (Int32.ofNat (2 ^ wN - 1))), .unset, .unset, .unset, .unset] [(.int ((((F_fs q1 wv) + (F_fs q2 wv)) + (F_fs q3 wv)) + (0 : Int32)))])) _
      rw [show ((((F_fs q1 wv) + (F_fs q2 wv)) + (F_fs q3 wv)) + (0 : Int32)) = (Int32.ofNat (sum4 24 wN uN q1 q2 q3 q4)) from (sum4_24 hw8 q1 q2 q3 q4)]
      show Own.Fin p e below (T23.setTop (mkF m 379 #[.val (.long q1), .second, .val (.long q2), .second, .val (.long q3), .second, .val (.long q4), .second, .val (.int p5), .val (.int p6), .val (.int (p5 &&& (7 : Int32))), .val (.ref oa), .val (.int nv), .val (.int wv), .val (.int pv), .val (.int lv), .val (.int (Int32.ofNat dN)), .val (.ref b1), .val (.ref bS), .val (.int (Int32.ofNat (2 ^ wN - 1))), .unset, .unset, .unset, .unset] [(.int (Int32.ofNat (sum4 24 wN uN q1 q2 q3 q4)))])) _
      refine Own.go (fun t k => XS.istore X23.here hx rfl (hb hby at_379) rfl (l' := #[.val (.long q1), .second, .val (.long q2), .second, .val (.long q3), .second, .val (.long q4), .second, .val (.int p5), .val (.int p6), .val (.int (p5 &&& (7 : Int32))), .val (.ref oa), .val (.int nv), .val (.int wv), .val (.int pv), .val (.int lv), .val (.int (Int32.ofNat dN)), .val (.ref b1), .val (.ref bS), .val (.int (Int32.ofNat (2 ^ wN - 1))), .val (.int (Int32.ofNat (sum4 24 wN uN q1 q2 q3 q4))), .unset, .unset, .unset]) rfl k) ?_
      show Own.Fin p e below (T23.setTop (mkF m 381 #[.val (.long q1), .second, .val (.long q2), .second, .val (.long q3), .second, .val (.long q4), .second, .val (.int p5), .val (.int p6), .val (.int (p5 &&& (7 : Int32))), .val (.ref oa), .val (.int nv), .val (.int wv), .val (.int pv), .val (.int lv), .val (.int (Int32.ofNat dN)), .val (.ref b1), .val (.ref bS), .val (.int (Int32.ofNat (2 ^ wN - 1))), .val (.int (Int32.ofNat (sum4 24 wN uN q1 q2 q3 q4))), .unset, .unset, .unset] [])) _
      refine Own.go (fun t k => XS.iload X23.here hx rfl (hb hby at_381) rfl k) ?_
      show Own.Fin p e below (T23.setTop (mkF m 383 #[.val (.long q1), .second, .val (.long q2), .second, .val (.long q3), .second, .val (.long q4), .second, .val (.int p5), .val (.int p6), .val (.int (p5 &&& (7 : Int32))), .val (.ref oa), .val (.int nv), .val (.int wv), .val (.int pv), .val (.int lv), .val (.int (Int32.ofNat dN)), .val (.ref b1), .val (.ref bS), .val (.int (Int32.ofNat (2 ^ wN - 1))), .val (.int (Int32.ofNat (sum4 24 wN uN q1 q2 q3 q4))), .unset, .unset, .unset] [(.int (Int32.ofNat dN))])) _
      refine Own.go (fun t k => XS.iload X23.here hx rfl (hb hby at_383) rfl k) ?_
      show Own.Fin p e below (T23.setTop (mkF m 385 #[.val (.long q1), .second, .val (.long q2), .second, .val (.long q3), .second, .val (.long q4), .second, .val (.int p5), .val (.int p6), .val (.int (p5 &&& (7 : Int32))), .val (.ref oa), .val (.int nv), .val (.int wv), .val (.int pv), .val (.int lv), .val (.int (Int32.ofNat dN)), .val (.ref b1), .val (.ref bS), .val (.int (Int32.ofNat (2 ^ wN - 1))), .val (.int (Int32.ofNat (sum4 24 wN uN q1 q2 q3 q4))), .unset, .unset, .unset] [(.int (Int32.ofNat (2 ^ wN - 1))), (.int (Int32.ofNat dN))])) _
      refine Own.go (fun t k => XS.imul X23.here hx rfl (hb hby at_385) rfl k) ?_
      show Own.Fin p e below (T23.setTop (mkF m 386 #[.val (.long q1), .second, .val (.long q2), .second, .val (.long q3), .second, .val (.long q4), .second, .val (.int p5), .val (.int p6), .val (.int (p5 &&& (7 : Int32))), .val (.ref oa), .val (.int nv), .val (.int wv), .val (.int pv), .val (.int lv), .val (.int (Int32.ofNat dN)), .val (.ref b1), .val (.ref bS), .val (.int (Int32.ofNat (2 ^ wN - 1))), .val (.int (Int32.ofNat (sum4 24 wN uN q1 q2 q3 q4))), .unset, .unset, .unset] [(.int ((Int32.ofNat dN) * (Int32.ofNat (2 ^ wN - 1))))])) _
      refine Own.go (fun t k => XS.iload X23.here hx rfl (hb hby at_386) rfl k) ?_
      show Own.Fin p e below (T23.setTop (mkF m 388 #[.val (.long q1), .second, .val (.long q2), .second, .val (.long q3), .second, .val (.long q4), .second, .val (.int p5), .val (.int p6), .val (.int (p5 &&& (7 : Int32))), .val (.ref oa), .val (.int nv), .val (.int wv), .val (.int pv), .val (.int lv), .val (.int (Int32.ofNat dN)), .val (.ref b1), .val (.ref bS), .val (.int (Int32.ofNat (2 ^ wN - 1))), .val (.int (Int32.ofNat (sum4 24 wN uN q1 q2 q3 q4))), .unset, .unset, .unset] [(.int (Int32.ofNat (sum4 24 wN uN q1 q2 q3 q4))), (.int ((Int32.ofNat dN) * (Int32.ofNat (2 ^ wN - 1))))])) _
      refine Own.go (fun t k => XS.isub X23.here hx rfl (hb hby at_388) rfl k) ?_
      show Own.Fin p e below (T23.setTop (mkF m 389 #[.val (.long q1), .second, .val (.long q2), .second, .val (.long q3), .second, .val (.long q4), .second, .val (.int p5), .val (.int p6), .val (.int (p5 &&& (7 : Int32))), .val (.ref oa), .val (.int nv), .val (.int wv), .val (.int pv), .val (.int lv), .val (.int (Int32.ofNat dN)), .val (.ref b1), .val (.ref bS), .val (.int (Int32.ofNat (2 ^ wN - 1))), .val (.int (Int32.ofNat (sum4 24 wN uN q1 q2 q3 q4))), .unset, .unset, .unset] [(.int (((Int32.ofNat dN) * (Int32.ofNat (2 ^ wN - 1))) - (Int32.ofNat (sum4 24 wN uN q1 q2 q3 q4))))])) _
      rw [show (((Int32.ofNat dN) * (Int32.ofNat (2 ^ wN - 1))) - (Int32.ofNat (sum4 24 wN uN q1 q2 q3 q4))) = (Int32.ofNat (SN wN uN (bys q1 q2 q3 q4) dN)) from (by rw [← hNv]; exact ck_eq hP q1 q2 q3 q4)]
      show Own.Fin p e below (T23.setTop (mkF m 389 #[.val (.long q1), .second, .val (.long q2), .second, .val (.long q3), .second, .val (.long q4), .second, .val (.int p5), .val (.int p6), .val (.int (p5 &&& (7 : Int32))), .val (.ref oa), .val (.int nv), .val (.int wv), .val (.int pv), .val (.int lv), .val (.int (Int32.ofNat dN)), .val (.ref b1), .val (.ref bS), .val (.int (Int32.ofNat (2 ^ wN - 1))), .val (.int (Int32.ofNat (sum4 24 wN uN q1 q2 q3 q4))), .unset, .unset, .unset] [(.int (Int32.ofNat (SN wN uN (bys q1 q2 q3 q4) dN)))])) _
      refine Own.go (fun t k => XS.iload X23.here hx rfl (hb hby at_389) rfl k) ?_
      show Own.Fin p e below (T23.setTop (mkF m 391 #[.val (.long q1), .second, .val (.long q2), .second, .val (.long q3), .second, .val (.long q4), .second, .val (.int p5), .val (.int p6), .val (.int (p5 &&& (7 : Int32))), .val (.ref oa), .val (.int nv), .val (.int wv), .val (.int pv), .val (.int lv), .val (.int (Int32.ofNat dN)), .val (.ref b1), .val (.ref bS), .val (.int (Int32.ofNat (2 ^ wN - 1))), .val (.int (Int32.ofNat (sum4 24 wN uN q1 q2 q3 q4))), .unset, .unset, .unset] [(.int lv), (.int (Int32.ofNat (SN wN uN (bys q1 q2 q3 q4) dN)))])) _
      refine Own.go (fun t k => XS.ishl X23.here hx rfl (hb hby at_391) rfl k) ?_
      show Own.Fin p e below (T23.setTop (mkF m 392 #[.val (.long q1), .second, .val (.long q2), .second, .val (.long q3), .second, .val (.long q4), .second, .val (.int p5), .val (.int p6), .val (.int (p5 &&& (7 : Int32))), .val (.ref oa), .val (.int nv), .val (.int wv), .val (.int pv), .val (.int lv), .val (.int (Int32.ofNat dN)), .val (.ref b1), .val (.ref bS), .val (.int (Int32.ofNat (2 ^ wN - 1))), .val (.int (Int32.ofNat (sum4 24 wN uN q1 q2 q3 q4))), .unset, .unset, .unset] [(.int (((Int32.ofNat (SN wN uN (bys q1 q2 q3 q4) dN)) <<< (lv &&& 31))))])) _
      refine Own.go (fun t k => X23.ldcInt hx hown (mvT hZ (hw _ (List.mem_of_getElem? (i := 32) rfl))) (g := (mkF m 392 #[.val (.long q1), .second, .val (.long q2), .second, .val (.long q3), .second, .val (.long q4), .second, .val (.int p5), .val (.int p6), .val (.int (p5 &&& (7 : Int32))), .val (.ref oa), .val (.int nv), .val (.int wv), .val (.int pv), .val (.int lv), .val (.int (Int32.ofNat dN)), .val (.ref b1), .val (.ref bS), .val (.int (Int32.ofNat (2 ^ wN - 1))), .val (.int (Int32.ofNat (sum4 24 wN uN q1 q2 q3 q4))), .unset, .unset, .unset] [(.int (((Int32.ofNat (SN wN uN (bys q1 q2 q3 q4) dN)) <<< (lv &&& 31))))])) rfl (hb hby at_392) _ k) ?_
      show Own.Fin p e below (T23.setTop (mkF m 394 #[.val (.long q1), .second, .val (.long q2), .second, .val (.long q3), .second, .val (.long q4), .second, .val (.int p5), .val (.int p6), .val (.int (p5 &&& (7 : Int32))), .val (.ref oa), .val (.int nv), .val (.int wv), .val (.int pv), .val (.int lv), .val (.int (Int32.ofNat dN)), .val (.ref b1), .val (.ref bS), .val (.int (Int32.ofNat (2 ^ wN - 1))), .val (.int (Int32.ofNat (sum4 24 wN uN q1 q2 q3 q4))), .unset, .unset, .unset] [(.int (65535 : Int32)), (.int (((Int32.ofNat (SN wN uN (bys q1 q2 q3 q4) dN)) <<< (lv &&& 31))))])) _
      refine Own.go (fun t k => XS.iand X23.here hx rfl (hb hby at_394) rfl k) ?_
      show Own.Fin p e below (T23.setTop (mkF m 395 #[.val (.long q1), .second, .val (.long q2), .second, .val (.long q3), .second, .val (.long q4), .second, .val (.int p5), .val (.int p6), .val (.int (p5 &&& (7 : Int32))), .val (.ref oa), .val (.int nv), .val (.int wv), .val (.int pv), .val (.int lv), .val (.int (Int32.ofNat dN)), .val (.ref b1), .val (.ref bS), .val (.int (Int32.ofNat (2 ^ wN - 1))), .val (.int (Int32.ofNat (sum4 24 wN uN q1 q2 q3 q4))), .unset, .unset, .unset] [(.int ((((Int32.ofNat (SN wN uN (bys q1 q2 q3 q4) dN)) <<< (lv &&& 31))) &&& (65535 : Int32)))])) _
      refine Own.go (fun t k => XS.istore X23.here hx rfl (hb hby at_395) rfl (l' := #[.val (.long q1), .second, .val (.long q2), .second, .val (.long q3), .second, .val (.long q4), .second, .val (.int p5), .val (.int p6), .val (.int (p5 &&& (7 : Int32))), .val (.ref oa), .val (.int nv), .val (.int wv), .val (.int pv), .val (.int lv), .val (.int (Int32.ofNat dN)), .val (.ref b1), .val (.ref bS), .val (.int (Int32.ofNat (2 ^ wN - 1))), .val (.int (Int32.ofNat (sum4 24 wN uN q1 q2 q3 q4))), .val (.int ((((Int32.ofNat (SN wN uN (bys q1 q2 q3 q4) dN)) <<< (lv &&& 31))) &&& (65535 : Int32))), .unset, .unset]) rfl k) ?_
      show Own.Fin p e below (T23.setTop (mkF m 397 #[.val (.long q1), .second, .val (.long q2), .second, .val (.long q3), .second, .val (.long q4), .second, .val (.int p5), .val (.int p6), .val (.int (p5 &&& (7 : Int32))), .val (.ref oa), .val (.int nv), .val (.int wv), .val (.int pv), .val (.int lv), .val (.int (Int32.ofNat dN)), .val (.ref b1), .val (.ref bS), .val (.int (Int32.ofNat (2 ^ wN - 1))), .val (.int (Int32.ofNat (sum4 24 wN uN q1 q2 q3 q4))), .val (.int ((((Int32.ofNat (SN wN uN (bys q1 q2 q3 q4) dN)) <<< (lv &&& 31))) &&& (65535 : Int32))), .unset, .unset] [])) _
      refine Own.go (fun t k => XS.iload X23.here hx rfl (hb hby at_397) rfl k) ?_
      show Own.Fin p e below (T23.setTop (mkF m 399 #[.val (.long q1), .second, .val (.long q2), .second, .val (.long q3), .second, .val (.long q4), .second, .val (.int p5), .val (.int p6), .val (.int (p5 &&& (7 : Int32))), .val (.ref oa), .val (.int nv), .val (.int wv), .val (.int pv), .val (.int lv), .val (.int (Int32.ofNat dN)), .val (.ref b1), .val (.ref bS), .val (.int (Int32.ofNat (2 ^ wN - 1))), .val (.int (Int32.ofNat (sum4 24 wN uN q1 q2 q3 q4))), .val (.int ((((Int32.ofNat (SN wN uN (bys q1 q2 q3 q4) dN)) <<< (lv &&& 31))) &&& (65535 : Int32))), .unset, .unset] [(.int p6)])) _
      refine Own.go (fun t k => X23.ldcInt hx hown (mvT hZ (hw _ (List.mem_of_getElem? (i := 32) rfl))) (g := (mkF m 399 #[.val (.long q1), .second, .val (.long q2), .second, .val (.long q3), .second, .val (.long q4), .second, .val (.int p5), .val (.int p6), .val (.int (p5 &&& (7 : Int32))), .val (.ref oa), .val (.int nv), .val (.int wv), .val (.int pv), .val (.int lv), .val (.int (Int32.ofNat dN)), .val (.ref b1), .val (.ref bS), .val (.int (Int32.ofNat (2 ^ wN - 1))), .val (.int (Int32.ofNat (sum4 24 wN uN q1 q2 q3 q4))), .val (.int ((((Int32.ofNat (SN wN uN (bys q1 q2 q3 q4) dN)) <<< (lv &&& 31))) &&& (65535 : Int32))), .unset, .unset] [(.int p6)])) rfl (hb hby at_399) _ k) ?_
      show Own.Fin p e below (T23.setTop (mkF m 401 #[.val (.long q1), .second, .val (.long q2), .second, .val (.long q3), .second, .val (.long q4), .second, .val (.int p5), .val (.int p6), .val (.int (p5 &&& (7 : Int32))), .val (.ref oa), .val (.int nv), .val (.int wv), .val (.int pv), .val (.int lv), .val (.int (Int32.ofNat dN)), .val (.ref b1), .val (.ref bS), .val (.int (Int32.ofNat (2 ^ wN - 1))), .val (.int (Int32.ofNat (sum4 24 wN uN q1 q2 q3 q4))), .val (.int ((((Int32.ofNat (SN wN uN (bys q1 q2 q3 q4) dN)) <<< (lv &&& 31))) &&& (65535 : Int32))), .unset, .unset] [(.int (65535 : Int32)), (.int p6)])) _
      refine Own.go (fun t k => XS.iand X23.here hx rfl (hb hby at_401) rfl k) ?_
      show Own.Fin p e below (T23.setTop (mkF m 402 #[.val (.long q1), .second, .val (.long q2), .second, .val (.long q3), .second, .val (.long q4), .second, .val (.int p5), .val (.int p6), .val (.int (p5 &&& (7 : Int32))), .val (.ref oa), .val (.int nv), .val (.int wv), .val (.int pv), .val (.int lv), .val (.int (Int32.ofNat dN)), .val (.ref b1), .val (.ref bS), .val (.int (Int32.ofNat (2 ^ wN - 1))), .val (.int (Int32.ofNat (sum4 24 wN uN q1 q2 q3 q4))), .val (.int ((((Int32.ofNat (SN wN uN (bys q1 q2 q3 q4) dN)) <<< (lv &&& 31))) &&& (65535 : Int32))), .unset, .unset] [(.int (p6 &&& (65535 : Int32)))])) _
      refine Own.go (fun t k => XS.iload X23.here hx rfl (hb hby at_402) rfl k) ?_
      show Own.Fin p e below (T23.setTop (mkF m 404 #[.val (.long q1), .second, .val (.long q2), .second, .val (.long q3), .second, .val (.long q4), .second, .val (.int p5), .val (.int p6), .val (.int (p5 &&& (7 : Int32))), .val (.ref oa), .val (.int nv), .val (.int wv), .val (.int pv), .val (.int lv), .val (.int (Int32.ofNat dN)), .val (.ref b1), .val (.ref bS), .val (.int (Int32.ofNat (2 ^ wN - 1))), .val (.int (Int32.ofNat (sum4 24 wN uN q1 q2 q3 q4))), .val (.int ((((Int32.ofNat (SN wN uN (bys q1 q2 q3 q4) dN)) <<< (lv &&& 31))) &&& (65535 : Int32))), .unset, .unset] [(.int pv), (.int (p6 &&& (65535 : Int32)))])) _
      refine Own.go (fun t k => XS.irem X23.here hx rfl (hb hby at_404) rfl fx10 k) ?_
      show Own.Fin p e below (T23.setTop (mkF m 405 #[.val (.long q1), .second, .val (.long q2), .second, .val (.long q3), .second, .val (.long q4), .second, .val (.int p5), .val (.int p6), .val (.int (p5 &&& (7 : Int32))), .val (.ref oa), .val (.int nv), .val (.int wv), .val (.int pv), .val (.int lv), .val (.int (Int32.ofNat dN)), .val (.ref b1), .val (.ref bS), .val (.int (Int32.ofNat (2 ^ wN - 1))), .val (.int (Int32.ofNat (sum4 24 wN uN q1 q2 q3 q4))), .val (.int ((((Int32.ofNat (SN wN uN (bys q1 q2 q3 q4) dN)) <<< (lv &&& 31))) &&& (65535 : Int32))), .unset, .unset] [(.int ((p6 &&& (65535 : Int32)) - ((p6 &&& (65535 : Int32)) / pv) * pv))])) _
      obtain ⟨i1, hi1, ei1⟩ := i1_ex hP p6
      rw [show ((p6 &&& (65535 : Int32)) - ((p6 &&& (65535 : Int32)) / pv) * pv) = (Int32.ofNat i1) from ei1]
      show Own.Fin p e below (T23.setTop (mkF m 405 #[.val (.long q1), .second, .val (.long q2), .second, .val (.long q3), .second, .val (.long q4), .second, .val (.int p5), .val (.int p6), .val (.int (p5 &&& (7 : Int32))), .val (.ref oa), .val (.int nv), .val (.int wv), .val (.int pv), .val (.int lv), .val (.int (Int32.ofNat dN)), .val (.ref b1), .val (.ref bS), .val (.int (Int32.ofNat (2 ^ wN - 1))), .val (.int (Int32.ofNat (sum4 24 wN uN q1 q2 q3 q4))), .val (.int ((((Int32.ofNat (SN wN uN (bys q1 q2 q3 q4) dN)) <<< (lv &&& 31))) &&& (65535 : Int32))), .unset, .unset] [(.int (Int32.ofNat i1))])) _
      refine Own.go (fun t k => XS.istore X23.here hx rfl (hb hby at_405) rfl (l' := #[.val (.long q1), .second, .val (.long q2), .second, .val (.long q3), .second, .val (.long q4), .second, .val (.int p5), .val (.int p6), .val (.int (p5 &&& (7 : Int32))), .val (.ref oa), .val (.int nv), .val (.int wv), .val (.int pv), .val (.int lv), .val (.int (Int32.ofNat dN)), .val (.ref b1), .val (.ref bS), .val (.int (Int32.ofNat (2 ^ wN - 1))), .val (.int (Int32.ofNat (sum4 24 wN uN q1 q2 q3 q4))), .val (.int ((((Int32.ofNat (SN wN uN (bys q1 q2 q3 q4) dN)) <<< (lv &&& 31))) &&& (65535 : Int32))), .val (.int (Int32.ofNat i1)), .unset]) rfl k) ?_
      show Own.Fin p e below (T23.setTop (mkF m 407 #[.val (.long q1), .second, .val (.long q2), .second, .val (.long q3), .second, .val (.long q4), .second, .val (.int p5), .val (.int p6), .val (.int (p5 &&& (7 : Int32))), .val (.ref oa), .val (.int nv), .val (.int wv), .val (.int pv), .val (.int lv), .val (.int (Int32.ofNat dN)), .val (.ref b1), .val (.ref bS), .val (.int (Int32.ofNat (2 ^ wN - 1))), .val (.int (Int32.ofNat (sum4 24 wN uN q1 q2 q3 q4))), .val (.int ((((Int32.ofNat (SN wN uN (bys q1 q2 q3 q4) dN)) <<< (lv &&& 31))) &&& (65535 : Int32))), .val (.int (Int32.ofNat i1)), .unset] [])) _
      refine Own.go (fun t k => XS.iload X23.here hx rfl (hb hby at_407) rfl k) ?_
      show Own.Fin p e below (T23.setTop (mkF m 409 #[.val (.long q1), .second, .val (.long q2), .second, .val (.long q3), .second, .val (.long q4), .second, .val (.int p5), .val (.int p6), .val (.int (p5 &&& (7 : Int32))), .val (.ref oa), .val (.int nv), .val (.int wv), .val (.int pv), .val (.int lv), .val (.int (Int32.ofNat dN)), .val (.ref b1), .val (.ref bS), .val (.int (Int32.ofNat (2 ^ wN - 1))), .val (.int (Int32.ofNat (sum4 24 wN uN q1 q2 q3 q4))), .val (.int ((((Int32.ofNat (SN wN uN (bys q1 q2 q3 q4) dN)) <<< (lv &&& 31))) &&& (65535 : Int32))), .val (.int (Int32.ofNat i1)), .unset] [(.int (Int32.ofNat dN))])) _
      refine Own.go (fun t k => XS.iload X23.here hx rfl (hb hby at_409) rfl k) ?_
      show Own.Fin p e below (T23.setTop (mkF m 411 #[.val (.long q1), .second, .val (.long q2), .second, .val (.long q3), .second, .val (.long q4), .second, .val (.int p5), .val (.int p6), .val (.int (p5 &&& (7 : Int32))), .val (.ref oa), .val (.int nv), .val (.int wv), .val (.int pv), .val (.int lv), .val (.int (Int32.ofNat dN)), .val (.ref b1), .val (.ref bS), .val (.int (Int32.ofNat (2 ^ wN - 1))), .val (.int (Int32.ofNat (sum4 24 wN uN q1 q2 q3 q4))), .val (.int ((((Int32.ofNat (SN wN uN (bys q1 q2 q3 q4) dN)) <<< (lv &&& 31))) &&& (65535 : Int32))), .val (.int (Int32.ofNat i1)), .unset] [(.int p6), (.int (Int32.ofNat dN))])) _
      refine Own.go (fun t k => XS.bipush X23.here hx rfl (hb hby at_411) k) ?_
      show Own.Fin p e below (T23.setTop (mkF m 413 #[.val (.long q1), .second, .val (.long q2), .second, .val (.long q3), .second, .val (.long q4), .second, .val (.int p5), .val (.int p6), .val (.int (p5 &&& (7 : Int32))), .val (.ref oa), .val (.int nv), .val (.int wv), .val (.int pv), .val (.int lv), .val (.int (Int32.ofNat dN)), .val (.ref b1), .val (.ref bS), .val (.int (Int32.ofNat (2 ^ wN - 1))), .val (.int (Int32.ofNat (sum4 24 wN uN q1 q2 q3 q4))), .val (.int ((((Int32.ofNat (SN wN uN (bys q1 q2 q3 q4) dN)) <<< (lv &&& 31))) &&& (65535 : Int32))), .val (.int (Int32.ofNat i1)), .unset] [(.int (16 : Int32)), (.int p6), (.int (Int32.ofNat dN))])) _
      refine Own.go (fun t k => XS.iushr X23.here hx rfl (hb hby at_413) rfl k) ?_
      show Own.Fin p e below (T23.setTop (mkF m 414 #[.val (.long q1), .second, .val (.long q2), .second, .val (.long q3), .second, .val (.long q4), .second, .val (.int p5), .val (.int p6), .val (.int (p5 &&& (7 : Int32))), .val (.ref oa), .val (.int nv), .val (.int wv), .val (.int pv), .val (.int lv), .val (.int (Int32.ofNat dN)), .val (.ref b1), .val (.ref bS), .val (.int (Int32.ofNat (2 ^ wN - 1))), .val (.int (Int32.ofNat (sum4 24 wN uN q1 q2 q3 q4))), .val (.int ((((Int32.ofNat (SN wN uN (bys q1 q2 q3 q4) dN)) <<< (lv &&& 31))) &&& (65535 : Int32))), .val (.int (Int32.ofNat i1)), .unset] [(.int (((p6).toUInt32 >>> ((16 : Int32) &&& 31).toUInt32).toInt32)), (.int (Int32.ofNat dN))])) _
      refine Own.go (fun t k => XS.iload X23.here hx rfl (hb hby at_414) rfl k) ?_
      show Own.Fin p e below (T23.setTop (mkF m 416 #[.val (.long q1), .second, .val (.long q2), .second, .val (.long q3), .second, .val (.long q4), .second, .val (.int p5), .val (.int p6), .val (.int (p5 &&& (7 : Int32))), .val (.ref oa), .val (.int nv), .val (.int wv), .val (.int pv), .val (.int lv), .val (.int (Int32.ofNat dN)), .val (.ref b1), .val (.ref bS), .val (.int (Int32.ofNat (2 ^ wN - 1))), .val (.int (Int32.ofNat (sum4 24 wN uN q1 q2 q3 q4))), .val (.int ((((Int32.ofNat (SN wN uN (bys q1 q2 q3 q4) dN)) <<< (lv &&& 31))) &&& (65535 : Int32))), .val (.int (Int32.ofNat i1)), .unset] [(.int pv), (.int (((p6).toUInt32 >>> ((16 : Int32) &&& 31).toUInt32).toInt32)), (.int (Int32.ofNat dN))])) _
      refine Own.go (fun t k => XS.iload X23.here hx rfl (hb hby at_416) rfl k) ?_
      show Own.Fin p e below (T23.setTop (mkF m 418 #[.val (.long q1), .second, .val (.long q2), .second, .val (.long q3), .second, .val (.long q4), .second, .val (.int p5), .val (.int p6), .val (.int (p5 &&& (7 : Int32))), .val (.ref oa), .val (.int nv), .val (.int wv), .val (.int pv), .val (.int lv), .val (.int (Int32.ofNat dN)), .val (.ref b1), .val (.ref bS), .val (.int (Int32.ofNat (2 ^ wN - 1))), .val (.int (Int32.ofNat (sum4 24 wN uN q1 q2 q3 q4))), .val (.int ((((Int32.ofNat (SN wN uN (bys q1 q2 q3 q4) dN)) <<< (lv &&& 31))) &&& (65535 : Int32))), .val (.int (Int32.ofNat i1)), .unset] [(.int (Int32.ofNat dN)), (.int pv), (.int (((p6).toUInt32 >>> ((16 : Int32) &&& 31).toUInt32).toInt32)), (.int (Int32.ofNat dN))])) _
      refine Own.go (fun t k => XS.isub X23.here hx rfl (hb hby at_418) rfl k) ?_
      show Own.Fin p e below (T23.setTop (mkF m 419 #[.val (.long q1), .second, .val (.long q2), .second, .val (.long q3), .second, .val (.long q4), .second, .val (.int p5), .val (.int p6), .val (.int (p5 &&& (7 : Int32))), .val (.ref oa), .val (.int nv), .val (.int wv), .val (.int pv), .val (.int lv), .val (.int (Int32.ofNat dN)), .val (.ref b1), .val (.ref bS), .val (.int (Int32.ofNat (2 ^ wN - 1))), .val (.int (Int32.ofNat (sum4 24 wN uN q1 q2 q3 q4))), .val (.int ((((Int32.ofNat (SN wN uN (bys q1 q2 q3 q4) dN)) <<< (lv &&& 31))) &&& (65535 : Int32))), .val (.int (Int32.ofNat i1)), .unset] [(.int (pv - (Int32.ofNat dN))), (.int (((p6).toUInt32 >>> ((16 : Int32) &&& 31).toUInt32).toInt32)), (.int (Int32.ofNat dN))])) _
      refine Own.go (fun t k => XS.irem X23.here hx rfl (hb hby at_419) rfl fx11 k) ?_
      show Own.Fin p e below (T23.setTop (mkF m 420 #[.val (.long q1), .second, .val (.long q2), .second, .val (.long q3), .second, .val (.long q4), .second, .val (.int p5), .val (.int p6), .val (.int (p5 &&& (7 : Int32))), .val (.ref oa), .val (.int nv), .val (.int wv), .val (.int pv), .val (.int lv), .val (.int (Int32.ofNat dN)), .val (.ref b1), .val (.ref bS), .val (.int (Int32.ofNat (2 ^ wN - 1))), .val (.int (Int32.ofNat (sum4 24 wN uN q1 q2 q3 q4))), .val (.int ((((Int32.ofNat (SN wN uN (bys q1 q2 q3 q4) dN)) <<< (lv &&& 31))) &&& (65535 : Int32))), .val (.int (Int32.ofNat i1)), .unset] [(.int ((((p6).toUInt32 >>> ((16 : Int32) &&& 31).toUInt32).toInt32) - ((((p6).toUInt32 >>> ((16 : Int32) &&& 31).toUInt32).toInt32) / (pv - (Int32.ofNat dN))) * (pv - (Int32.ofNat dN)))), (.int (Int32.ofNat dN))])) _
      refine Own.go (fun t k => XS.iadd X23.here hx rfl (hb hby at_420) rfl k) ?_
      show Own.Fin p e below (T23.setTop (mkF m 421 #[.val (.long q1), .second, .val (.long q2), .second, .val (.long q3), .second, .val (.long q4), .second, .val (.int p5), .val (.int p6), .val (.int (p5 &&& (7 : Int32))), .val (.ref oa), .val (.int nv), .val (.int wv), .val (.int pv), .val (.int lv), .val (.int (Int32.ofNat dN)), .val (.ref b1), .val (.ref bS), .val (.int (Int32.ofNat (2 ^ wN - 1))), .val (.int (Int32.ofNat (sum4 24 wN uN q1 q2 q3 q4))), .val (.int ((((Int32.ofNat (SN wN uN (bys q1 q2 q3 q4) dN)) <<< (lv &&& 31))) &&& (65535 : Int32))), .val (.int (Int32.ofNat i1)), .unset] [(.int ((Int32.ofNat dN) + ((((p6).toUInt32 >>> ((16 : Int32) &&& 31).toUInt32).toInt32) - ((((p6).toUInt32 >>> ((16 : Int32) &&& 31).toUInt32).toInt32) / (pv - (Int32.ofNat dN))) * (pv - (Int32.ofNat dN)))))])) _
      obtain ⟨i2, hi2, ei2⟩ := i2_ex hP p6
      rw [show ((Int32.ofNat dN) + ((((p6).toUInt32 >>> ((16 : Int32) &&& 31).toUInt32).toInt32) - ((((p6).toUInt32 >>> ((16 : Int32) &&& 31).toUInt32).toInt32) / (pv - (Int32.ofNat dN))) * (pv - (Int32.ofNat dN)))) = (Int32.ofNat i2) from ei2]
      show Own.Fin p e below (T23.setTop (mkF m 421 #[.val (.long q1), .second, .val (.long q2), .second, .val (.long q3), .second, .val (.long q4), .second, .val (.int p5), .val (.int p6), .val (.int (p5 &&& (7 : Int32))), .val (.ref oa), .val (.int nv), .val (.int wv), .val (.int pv), .val (.int lv), .val (.int (Int32.ofNat dN)), .val (.ref b1), .val (.ref bS), .val (.int (Int32.ofNat (2 ^ wN - 1))), .val (.int (Int32.ofNat (sum4 24 wN uN q1 q2 q3 q4))), .val (.int ((((Int32.ofNat (SN wN uN (bys q1 q2 q3 q4) dN)) <<< (lv &&& 31))) &&& (65535 : Int32))), .val (.int (Int32.ofNat i1)), .unset] [(.int (Int32.ofNat i2))])) _
      refine Own.go (fun t k => XS.istore X23.here hx rfl (hb hby at_421) rfl (l' := #[.val (.long q1), .second, .val (.long q2), .second, .val (.long q3), .second, .val (.long q4), .second, .val (.int p5), .val (.int p6), .val (.int (p5 &&& (7 : Int32))), .val (.ref oa), .val (.int nv), .val (.int wv), .val (.int pv), .val (.int lv), .val (.int (Int32.ofNat dN)), .val (.ref b1), .val (.ref bS), .val (.int (Int32.ofNat (2 ^ wN - 1))), .val (.int (Int32.ofNat (sum4 24 wN uN q1 q2 q3 q4))), .val (.int ((((Int32.ofNat (SN wN uN (bys q1 q2 q3 q4) dN)) <<< (lv &&& 31))) &&& (65535 : Int32))), .val (.int (Int32.ofNat i1)), .val (.int (Int32.ofNat i2))]) rfl k) ?_
      show Own.Fin p e below (T23.setTop (mkF m 423 #[.val (.long q1), .second, .val (.long q2), .second, .val (.long q3), .second, .val (.long q4), .second, .val (.int p5), .val (.int p6), .val (.int (p5 &&& (7 : Int32))), .val (.ref oa), .val (.int nv), .val (.int wv), .val (.int pv), .val (.int lv), .val (.int (Int32.ofNat dN)), .val (.ref b1), .val (.ref bS), .val (.int (Int32.ofNat (2 ^ wN - 1))), .val (.int (Int32.ofNat (sum4 24 wN uN q1 q2 q3 q4))), .val (.int ((((Int32.ofNat (SN wN uN (bys q1 q2 q3 q4) dN)) <<< (lv &&& 31))) &&& (65535 : Int32))), .val (.int (Int32.ofNat i1)), .val (.int (Int32.ofNat i2))] [])) _
      refine Own.go (fun t k => XS.aload X23.here hx rfl (hb hby at_423) rfl rfl k) ?_
      show Own.Fin p e below (T23.setTop (mkF m 425 #[.val (.long q1), .second, .val (.long q2), .second, .val (.long q3), .second, .val (.long q4), .second, .val (.int p5), .val (.int p6), .val (.int (p5 &&& (7 : Int32))), .val (.ref oa), .val (.int nv), .val (.int wv), .val (.int pv), .val (.int lv), .val (.int (Int32.ofNat dN)), .val (.ref b1), .val (.ref bS), .val (.int (Int32.ofNat (2 ^ wN - 1))), .val (.int (Int32.ofNat (sum4 24 wN uN q1 q2 q3 q4))), .val (.int ((((Int32.ofNat (SN wN uN (bys q1 q2 q3 q4) dN)) <<< (lv &&& 31))) &&& (65535 : Int32))), .val (.int (Int32.ofNat i1)), .val (.int (Int32.ofNat i2))] [(.ref bS)])) _
      refine Own.go (fun t k => XS.iload X23.here hx rfl (hb hby at_425) rfl k) ?_
      show Own.Fin p e below (T23.setTop (mkF m 427 #[.val (.long q1), .second, .val (.long q2), .second, .val (.long q3), .second, .val (.long q4), .second, .val (.int p5), .val (.int p6), .val (.int (p5 &&& (7 : Int32))), .val (.ref oa), .val (.int nv), .val (.int wv), .val (.int pv), .val (.int lv), .val (.int (Int32.ofNat dN)), .val (.ref b1), .val (.ref bS), .val (.int (Int32.ofNat (2 ^ wN - 1))), .val (.int (Int32.ofNat (sum4 24 wN uN q1 q2 q3 q4))), .val (.int ((((Int32.ofNat (SN wN uN (bys q1 q2 q3 q4) dN)) <<< (lv &&& 31))) &&& (65535 : Int32))), .val (.int (Int32.ofNat i1)), .val (.int (Int32.ofNat i2))] [(.int (Int32.ofNat i1)), (.ref bS)])) _
      refine ldIT (x := (Int32.ofNat (cN wN uN dN (bys q1 q2 q3 q4) (cb (Int32.ofNat (SN wN uN (bys q1 q2 q3 q4) dN) <<< (lv &&& 31))) i1))) X23 hx hZ e23 VS (hb hby at_427) fx5 (by omega) i1 rfl hi1 (hgS i1 hi1) ?_
      show Own.Fin p e below (T23.setTop (mkF m 428 #[.val (.long q1), .second, .val (.long q2), .second, .val (.long q3), .second, .val (.long q4), .second, .val (.int p5), .val (.int p6), .val (.int (p5 &&& (7 : Int32))), .val (.ref oa), .val (.int nv), .val (.int wv), .val (.int pv), .val (.int lv), .val (.int (Int32.ofNat dN)), .val (.ref b1), .val (.ref bS), .val (.int (Int32.ofNat (2 ^ wN - 1))), .val (.int (Int32.ofNat (sum4 24 wN uN q1 q2 q3 q4))), .val (.int ((((Int32.ofNat (SN wN uN (bys q1 q2 q3 q4) dN)) <<< (lv &&& 31))) &&& (65535 : Int32))), .val (.int (Int32.ofNat i1)), .val (.int (Int32.ofNat i2))] [(.int (Int32.ofNat (cN wN uN dN (bys q1 q2 q3 q4) (cb (Int32.ofNat (SN wN uN (bys q1 q2 q3 q4) dN) <<< (lv &&& 31))) i1)))])) _
      refine Own.go (fun t k => XS.lloadN X23.here hx rfl (hb hby at_428) rfl k) ?_
      show Own.Fin p e below (T23.setTop (mkF m 429 #[.val (.long q1), .second, .val (.long q2), .second, .val (.long q3), .second, .val (.long q4), .second, .val (.int p5), .val (.int p6), .val (.int (p5 &&& (7 : Int32))), .val (.ref oa), .val (.int nv), .val (.int wv), .val (.int pv), .val (.int lv), .val (.int (Int32.ofNat dN)), .val (.ref b1), .val (.ref bS), .val (.int (Int32.ofNat (2 ^ wN - 1))), .val (.int (Int32.ofNat (sum4 24 wN uN q1 q2 q3 q4))), .val (.int ((((Int32.ofNat (SN wN uN (bys q1 q2 q3 q4) dN)) <<< (lv &&& 31))) &&& (65535 : Int32))), .val (.int (Int32.ofNat i1)), .val (.int (Int32.ofNat i2))] [(.long q1), (.int (Int32.ofNat (cN wN uN dN (bys q1 q2 q3 q4) (cb (Int32.ofNat (SN wN uN (bys q1 q2 q3 q4) dN) <<< (lv &&& 31))) i1)))])) _
      refine Own.go (fun t k => XS.lloadN X23.here hx rfl (hb hby at_429) rfl k) ?_
      show Own.Fin p e below (T23.setTop (mkF m 430 #[.val (.long q1), .second, .val (.long q2), .second, .val (.long q3), .second, .val (.long q4), .second, .val (.int p5), .val (.int p6), .val (.int (p5 &&& (7 : Int32))), .val (.ref oa), .val (.int nv), .val (.int wv), .val (.int pv), .val (.int lv), .val (.int (Int32.ofNat dN)), .val (.ref b1), .val (.ref bS), .val (.int (Int32.ofNat (2 ^ wN - 1))), .val (.int (Int32.ofNat (sum4 24 wN uN q1 q2 q3 q4))), .val (.int ((((Int32.ofNat (SN wN uN (bys q1 q2 q3 q4) dN)) <<< (lv &&& 31))) &&& (65535 : Int32))), .val (.int (Int32.ofNat i1)), .val (.int (Int32.ofNat i2))] [(.long q2), (.long q1), (.int (Int32.ofNat (cN wN uN dN (bys q1 q2 q3 q4) (cb (Int32.ofNat (SN wN uN (bys q1 q2 q3 q4) dN) <<< (lv &&& 31))) i1)))])) _
      refine Own.go (fun t k => XS.lload X23.here hx rfl (hb hby at_430) rfl k) ?_
      show Own.Fin p e below (T23.setTop (mkF m 432 #[.val (.long q1), .second, .val (.long q2), .second, .val (.long q3), .second, .val (.long q4), .second, .val (.int p5), .val (.int p6), .val (.int (p5 &&& (7 : Int32))), .val (.ref oa), .val (.int nv), .val (.int wv), .val (.int pv), .val (.int lv), .val (.int (Int32.ofNat dN)), .val (.ref b1), .val (.ref bS), .val (.int (Int32.ofNat (2 ^ wN - 1))), .val (.int (Int32.ofNat (sum4 24 wN uN q1 q2 q3 q4))), .val (.int ((((Int32.ofNat (SN wN uN (bys q1 q2 q3 q4) dN)) <<< (lv &&& 31))) &&& (65535 : Int32))), .val (.int (Int32.ofNat i1)), .val (.int (Int32.ofNat i2))] [(.long q3), (.long q2), (.long q1), (.int (Int32.ofNat (cN wN uN dN (bys q1 q2 q3 q4) (cb (Int32.ofNat (SN wN uN (bys q1 q2 q3 q4) dN) <<< (lv &&& 31))) i1)))])) _
      refine Own.go (fun t k => XS.lload X23.here hx rfl (hb hby at_432) rfl k) ?_
      show Own.Fin p e below (T23.setTop (mkF m 434 #[.val (.long q1), .second, .val (.long q2), .second, .val (.long q3), .second, .val (.long q4), .second, .val (.int p5), .val (.int p6), .val (.int (p5 &&& (7 : Int32))), .val (.ref oa), .val (.int nv), .val (.int wv), .val (.int pv), .val (.int lv), .val (.int (Int32.ofNat dN)), .val (.ref b1), .val (.ref bS), .val (.int (Int32.ofNat (2 ^ wN - 1))), .val (.int (Int32.ofNat (sum4 24 wN uN q1 q2 q3 q4))), .val (.int ((((Int32.ofNat (SN wN uN (bys q1 q2 q3 q4) dN)) <<< (lv &&& 31))) &&& (65535 : Int32))), .val (.int (Int32.ofNat i1)), .val (.int (Int32.ofNat i2))] [(.long q4), (.long q3), (.long q2), (.long q1), (.int (Int32.ofNat (cN wN uN dN (bys q1 q2 q3 q4) (cb (Int32.ofNat (SN wN uN (bys q1 q2 q3 q4) dN) <<< (lv &&& 31))) i1)))])) _
      refine Own.go (fun t k => XS.iload X23.here hx rfl (hb hby at_434) rfl k) ?_
      show Own.Fin p e below (T23.setTop (mkF m 436 #[.val (.long q1), .second, .val (.long q2), .second, .val (.long q3), .second, .val (.long q4), .second, .val (.int p5), .val (.int p6), .val (.int (p5 &&& (7 : Int32))), .val (.ref oa), .val (.int nv), .val (.int wv), .val (.int pv), .val (.int lv), .val (.int (Int32.ofNat dN)), .val (.ref b1), .val (.ref bS), .val (.int (Int32.ofNat (2 ^ wN - 1))), .val (.int (Int32.ofNat (sum4 24 wN uN q1 q2 q3 q4))), .val (.int ((((Int32.ofNat (SN wN uN (bys q1 q2 q3 q4) dN)) <<< (lv &&& 31))) &&& (65535 : Int32))), .val (.int (Int32.ofNat i1)), .val (.int (Int32.ofNat i2))] [(.int wv), (.long q4), (.long q3), (.long q2), (.long q1), (.int (Int32.ofNat (cN wN uN dN (bys q1 q2 q3 q4) (cb (Int32.ofNat (SN wN uN (bys q1 q2 q3 q4) dN) <<< (lv &&& 31))) i1)))])) _
      refine Own.go (fun t k => XS.iload X23.here hx rfl (hb hby at_436) rfl k) ?_
      show Own.Fin p e below (T23.setTop (mkF m 438 #[.val (.long q1), .second, .val (.long q2), .second, .val (.long q3), .second, .val (.long q4), .second, .val (.int p5), .val (.int p6), .val (.int (p5 &&& (7 : Int32))), .val (.ref oa), .val (.int nv), .val (.int wv), .val (.int pv), .val (.int lv), .val (.int (Int32.ofNat dN)), .val (.ref b1), .val (.ref bS), .val (.int (Int32.ofNat (2 ^ wN - 1))), .val (.int (Int32.ofNat (sum4 24 wN uN q1 q2 q3 q4))), .val (.int ((((Int32.ofNat (SN wN uN (bys q1 q2 q3 q4) dN)) <<< (lv &&& 31))) &&& (65535 : Int32))), .val (.int (Int32.ofNat i1)), .val (.int (Int32.ofNat i2))] [(.int (Int32.ofNat (2 ^ wN - 1))), (.int wv), (.long q4), (.long q3), (.long q2), (.long q1), (.int (Int32.ofNat (cN wN uN dN (bys q1 q2 q3 q4) (cb (Int32.ofNat (SN wN uN (bys q1 q2 q3 q4) dN) <<< (lv &&& 31))) i1)))])) _
      refine Own.go (fun t k => XS.iload X23.here hx rfl (hb hby at_438) rfl k) ?_
      show Own.Fin p e below (T23.setTop (mkF m 440 #[.val (.long q1), .second, .val (.long q2), .second, .val (.long q3), .second, .val (.long q4), .second, .val (.int p5), .val (.int p6), .val (.int (p5 &&& (7 : Int32))), .val (.ref oa), .val (.int nv), .val (.int wv), .val (.int pv), .val (.int lv), .val (.int (Int32.ofNat dN)), .val (.ref b1), .val (.ref bS), .val (.int (Int32.ofNat (2 ^ wN - 1))), .val (.int (Int32.ofNat (sum4 24 wN uN q1 q2 q3 q4))), .val (.int ((((Int32.ofNat (SN wN uN (bys q1 q2 q3 q4) dN)) <<< (lv &&& 31))) &&& (65535 : Int32))), .val (.int (Int32.ofNat i1)), .val (.int (Int32.ofNat i2))] [(.int (Int32.ofNat dN)), (.int (Int32.ofNat (2 ^ wN - 1))), (.int wv), (.long q4), (.long q3), (.long q2), (.long q1), (.int (Int32.ofNat (cN wN uN dN (bys q1 q2 q3 q4) (cb (Int32.ofNat (SN wN uN (bys q1 q2 q3 q4) dN) <<< (lv &&& 31))) i1)))])) _
      refine Own.go (fun t k => XS.iload X23.here hx rfl (hb hby at_440) rfl k) ?_
      show Own.Fin p e below (T23.setTop (mkF m 442 #[.val (.long q1), .second, .val (.long q2), .second, .val (.long q3), .second, .val (.long q4), .second, .val (.int p5), .val (.int p6), .val (.int (p5 &&& (7 : Int32))), .val (.ref oa), .val (.int nv), .val (.int wv), .val (.int pv), .val (.int lv), .val (.int (Int32.ofNat dN)), .val (.ref b1), .val (.ref bS), .val (.int (Int32.ofNat (2 ^ wN - 1))), .val (.int (Int32.ofNat (sum4 24 wN uN q1 q2 q3 q4))), .val (.int ((((Int32.ofNat (SN wN uN (bys q1 q2 q3 q4) dN)) <<< (lv &&& 31))) &&& (65535 : Int32))), .val (.int (Int32.ofNat i1)), .val (.int (Int32.ofNat i2))] [(.int ((((Int32.ofNat (SN wN uN (bys q1 q2 q3 q4) dN)) <<< (lv &&& 31))) &&& (65535 : Int32))), (.int (Int32.ofNat dN)), (.int (Int32.ofNat (2 ^ wN - 1))), (.int wv), (.long q4), (.long q3), (.long q2), (.long q1), (.int (Int32.ofNat (cN wN uN dN (bys q1 q2 q3 q4) (cb (Int32.ofNat (SN wN uN (bys q1 q2 q3 q4) dN) <<< (lv &&& 31))) i1)))])) _
      refine Own.go (fun t k => XS.iload X23.here hx rfl (hb hby at_442) rfl k) ?_
      show Own.Fin p e below (T23.setTop (mkF m 444 #[.val (.long q1), .second, .val (.long q2), .second, .val (.long q3), .second, .val (.long q4), .second, .val (.int p5), .val (.int p6), .val (.int (p5 &&& (7 : Int32))), .val (.ref oa), .val (.int nv), .val (.int wv), .val (.int pv), .val (.int lv), .val (.int (Int32.ofNat dN)), .val (.ref b1), .val (.ref bS), .val (.int (Int32.ofNat (2 ^ wN - 1))), .val (.int (Int32.ofNat (sum4 24 wN uN q1 q2 q3 q4))), .val (.int ((((Int32.ofNat (SN wN uN (bys q1 q2 q3 q4) dN)) <<< (lv &&& 31))) &&& (65535 : Int32))), .val (.int (Int32.ofNat i1)), .val (.int (Int32.ofNat i2))] [(.int (Int32.ofNat i1)), (.int ((((Int32.ofNat (SN wN uN (bys q1 q2 q3 q4) dN)) <<< (lv &&& 31))) &&& (65535 : Int32))), (.int (Int32.ofNat dN)), (.int (Int32.ofNat (2 ^ wN - 1))), (.int wv), (.long q4), (.long q3), (.long q2), (.long q1), (.int (Int32.ofNat (cN wN uN dN (bys q1 q2 q3 q4) (cb (Int32.ofNat (SN wN uN (bys q1 q2 q3 q4) dN) <<< (lv &&& 31))) i1)))])) _
      refine Own.cS X23 hx hZ hown (hw _ (List.mem_of_getElem? (i := 33) rfl)) (hw _ (List.mem_of_getElem? (i := 34) rfl)) (hw _ (List.mem_of_getElem? (i := 6) rfl)) (hw _ (List.mem_of_getElem? (i := 35) rfl)) (by decide) (rm5 l Z a0 hw [] q1 q2 q3 q4 wv (Int32.ofNat (2 ^ wN - 1)) (Int32.ofNat dN) ((((Int32.ofNat (SN wN uN (bys q1 q2 q3 q4) dN)) <<< (lv &&& 31))) &&& (65535 : Int32)) (Int32.ofNat i1) T19.heap n0 Z19 ) (by decide) (W := 1) (by decide) (argsL := [(.long q1), (.long q2), (.long q3), (.long q4), (.int wv), (.int (Int32.ofNat (2 ^ wN - 1))), (.int (Int32.ofNat dN)), (.int ((((Int32.ofNat (SN wN uN (bys q1 q2 q3 q4) dN)) <<< (lv &&& 31))) &&& (65535 : Int32))), (.int (Int32.ofNat i1))]) (rest := [(.int (Int32.ofNat (cN wN uN dN (bys q1 q2 q3 q4) (cb (Int32.ofNat (SN wN uN (bys q1 q2 q3 q4) dN) <<< (lv &&& 31))) i1)))]) (by rw [hml]; rfl) (lenOf pd_4 rfl) rfl (Nat.le_of_eq rfl) (hb hby at_444) e23 (by decide) (by decide) ?_
      intro T25 L25 v25 X25 hQ25
      obtain ⟨rfl, N25q, e25⟩ := hQ25
      have N25 := Fr.app N23 N25q
      show Own.Fin p e below (T25.setTop (mkF m 447 #[.val (.long q1), .second, .val (.long q2), .second, .val (.long q3), .second, .val (.long q4), .second, .val (.int p5), .val (.int p6), .val (.int (p5 &&& (7 : Int32))), .val (.ref oa), .val (.int nv), .val (.int wv), .val (.int pv), .val (.int lv), .val (.int (Int32.ofNat dN)), .val (.ref b1), .val (.ref bS), .val (.int (Int32.ofNat (2 ^ wN - 1))), .val (.int (Int32.ofNat (sum4 24 wN uN q1 q2 q3 q4))), .val (.int ((((Int32.ofNat (SN wN uN (bys q1 q2 q3 q4) dN)) <<< (lv &&& 31))) &&& (65535 : Int32))), .val (.int (Int32.ofNat i1)), .val (.int (Int32.ofNat i2))] [(.int (F_exp q1 q2 q3 q4 wv (Int32.ofNat (2 ^ wN - 1)) (Int32.ofNat dN) ((((Int32.ofNat (SN wN uN (bys q1 q2 q3 q4) dN)) <<< (lv &&& 31))) &&& (65535 : Int32)) (Int32.ofNat i1))), (.int (Int32.ofNat (cN wN uN dN (bys q1 q2 q3 q4) (cb (Int32.ofNat (SN wN uN (bys q1 q2 q3 q4) dN) <<< (lv &&& 31))) i1)))])) _
      have hc447_25 : (Int32.ofNat (cN wN uN dN (bys q1 q2 q3 q4) (cb (Int32.ofNat (SN wN uN (bys q1 q2 q3 q4) dN) <<< (lv &&& 31))) i1)) = (F_exp q1 q2 q3 q4 wv (Int32.ofNat (2 ^ wN - 1)) (Int32.ofNat dN) ((((Int32.ofNat (SN wN uN (bys q1 q2 q3 q4) dN)) <<< (lv &&& 31))) &&& (65535 : Int32)) (Int32.ofNat i1)) := (exp_eq hP q1 q2 q3 q4 _ i1 hi1).symm
      refine Own.go (fun t k => XS.icmpNo X25.here hx rfl (hb hby at_447) rfl (teq hc447_25).2 k) ?_
      show Own.Fin p e below (T25.setTop (mkF m 450 #[.val (.long q1), .second, .val (.long q2), .second, .val (.long q3), .second, .val (.long q4), .second, .val (.int p5), .val (.int p6), .val (.int (p5 &&& (7 : Int32))), .val (.ref oa), .val (.int nv), .val (.int wv), .val (.int pv), .val (.int lv), .val (.int (Int32.ofNat dN)), .val (.ref b1), .val (.ref bS), .val (.int (Int32.ofNat (2 ^ wN - 1))), .val (.int (Int32.ofNat (sum4 24 wN uN q1 q2 q3 q4))), .val (.int ((((Int32.ofNat (SN wN uN (bys q1 q2 q3 q4) dN)) <<< (lv &&& 31))) &&& (65535 : Int32))), .val (.int (Int32.ofNat i1)), .val (.int (Int32.ofNat i2))] [])) _
      refine Own.go (fun t k => XS.aload X25.here hx rfl (hb hby at_450) rfl rfl k) ?_
      show Own.Fin p e below (T25.setTop (mkF m 452 #[.val (.long q1), .second, .val (.long q2), .second, .val (.long q3), .second, .val (.long q4), .second, .val (.int p5), .val (.int p6), .val (.int (p5 &&& (7 : Int32))), .val (.ref oa), .val (.int nv), .val (.int wv), .val (.int pv), .val (.int lv), .val (.int (Int32.ofNat dN)), .val (.ref b1), .val (.ref bS), .val (.int (Int32.ofNat (2 ^ wN - 1))), .val (.int (Int32.ofNat (sum4 24 wN uN q1 q2 q3 q4))), .val (.int ((((Int32.ofNat (SN wN uN (bys q1 q2 q3 q4) dN)) <<< (lv &&& 31))) &&& (65535 : Int32))), .val (.int (Int32.ofNat i1)), .val (.int (Int32.ofNat i2))] [(.ref bS)])) _
      refine Own.go (fun t k => XS.iload X25.here hx rfl (hb hby at_452) rfl k) ?_
      show Own.Fin p e below (T25.setTop (mkF m 454 #[.val (.long q1), .second, .val (.long q2), .second, .val (.long q3), .second, .val (.long q4), .second, .val (.int p5), .val (.int p6), .val (.int (p5 &&& (7 : Int32))), .val (.ref oa), .val (.int nv), .val (.int wv), .val (.int pv), .val (.int lv), .val (.int (Int32.ofNat dN)), .val (.ref b1), .val (.ref bS), .val (.int (Int32.ofNat (2 ^ wN - 1))), .val (.int (Int32.ofNat (sum4 24 wN uN q1 q2 q3 q4))), .val (.int ((((Int32.ofNat (SN wN uN (bys q1 q2 q3 q4) dN)) <<< (lv &&& 31))) &&& (65535 : Int32))), .val (.int (Int32.ofNat i1)), .val (.int (Int32.ofNat i2))] [(.int (Int32.ofNat i2)), (.ref bS)])) _
      refine ldIT (x := (Int32.ofNat (cN wN uN dN (bys q1 q2 q3 q4) (cb (Int32.ofNat (SN wN uN (bys q1 q2 q3 q4) dN) <<< (lv &&& 31))) i2))) X25 hx hZ e25 VS (hb hby at_454) fx5 (by omega) i2 rfl hi2 (hgS i2 hi2) ?_
      show Own.Fin p e below (T25.setTop (mkF m 455 #[.val (.long q1), .second, .val (.long q2), .second, .val (.long q3), .second, .val (.long q4), .second, .val (.int p5), .val (.int p6), .val (.int (p5 &&& (7 : Int32))), .val (.ref oa), .val (.int nv), .val (.int wv), .val (.int pv), .val (.int lv), .val (.int (Int32.ofNat dN)), .val (.ref b1), .val (.ref bS), .val (.int (Int32.ofNat (2 ^ wN - 1))), .val (.int (Int32.ofNat (sum4 24 wN uN q1 q2 q3 q4))), .val (.int ((((Int32.ofNat (SN wN uN (bys q1 q2 q3 q4) dN)) <<< (lv &&& 31))) &&& (65535 : Int32))), .val (.int (Int32.ofNat i1)), .val (.int (Int32.ofNat i2))] [(.int (Int32.ofNat (cN wN uN dN (bys q1 q2 q3 q4) (cb (Int32.ofNat (SN wN uN (bys q1 q2 q3 q4) dN) <<< (lv &&& 31))) i2)))])) _
      refine Own.go (fun t k => XS.lloadN X25.here hx rfl (hb hby at_455) rfl k) ?_
      show Own.Fin p e below (T25.setTop (mkF m 456 #[.val (.long q1), .second, .val (.long q2), .second, .val (.long q3), .second, .val (.long q4), .second, .val (.int p5), .val (.int p6), .val (.int (p5 &&& (7 : Int32))), .val (.ref oa), .val (.int nv), .val (.int wv), .val (.int pv), .val (.int lv), .val (.int (Int32.ofNat dN)), .val (.ref b1), .val (.ref bS), .val (.int (Int32.ofNat (2 ^ wN - 1))), .val (.int (Int32.ofNat (sum4 24 wN uN q1 q2 q3 q4))), .val (.int ((((Int32.ofNat (SN wN uN (bys q1 q2 q3 q4) dN)) <<< (lv &&& 31))) &&& (65535 : Int32))), .val (.int (Int32.ofNat i1)), .val (.int (Int32.ofNat i2))] [(.long q1), (.int (Int32.ofNat (cN wN uN dN (bys q1 q2 q3 q4) (cb (Int32.ofNat (SN wN uN (bys q1 q2 q3 q4) dN) <<< (lv &&& 31))) i2)))])) _
      refine Own.go (fun t k => XS.lloadN X25.here hx rfl (hb hby at_456) rfl k) ?_
      show Own.Fin p e below (T25.setTop (mkF m 457 #[.val (.long q1), .second, .val (.long q2), .second, .val (.long q3), .second, .val (.long q4), .second, .val (.int p5), .val (.int p6), .val (.int (p5 &&& (7 : Int32))), .val (.ref oa), .val (.int nv), .val (.int wv), .val (.int pv), .val (.int lv), .val (.int (Int32.ofNat dN)), .val (.ref b1), .val (.ref bS), .val (.int (Int32.ofNat (2 ^ wN - 1))), .val (.int (Int32.ofNat (sum4 24 wN uN q1 q2 q3 q4))), .val (.int ((((Int32.ofNat (SN wN uN (bys q1 q2 q3 q4) dN)) <<< (lv &&& 31))) &&& (65535 : Int32))), .val (.int (Int32.ofNat i1)), .val (.int (Int32.ofNat i2))] [(.long q2), (.long q1), (.int (Int32.ofNat (cN wN uN dN (bys q1 q2 q3 q4) (cb (Int32.ofNat (SN wN uN (bys q1 q2 q3 q4) dN) <<< (lv &&& 31))) i2)))])) _
      refine Own.go (fun t k => XS.lload X25.here hx rfl (hb hby at_457) rfl k) ?_
      show Own.Fin p e below (T25.setTop (mkF m 459 #[.val (.long q1), .second, .val (.long q2), .second, .val (.long q3), .second, .val (.long q4), .second, .val (.int p5), .val (.int p6), .val (.int (p5 &&& (7 : Int32))), .val (.ref oa), .val (.int nv), .val (.int wv), .val (.int pv), .val (.int lv), .val (.int (Int32.ofNat dN)), .val (.ref b1), .val (.ref bS), .val (.int (Int32.ofNat (2 ^ wN - 1))), .val (.int (Int32.ofNat (sum4 24 wN uN q1 q2 q3 q4))), .val (.int ((((Int32.ofNat (SN wN uN (bys q1 q2 q3 q4) dN)) <<< (lv &&& 31))) &&& (65535 : Int32))), .val (.int (Int32.ofNat i1)), .val (.int (Int32.ofNat i2))] [(.long q3), (.long q2), (.long q1), (.int (Int32.ofNat (cN wN uN dN (bys q1 q2 q3 q4) (cb (Int32.ofNat (SN wN uN (bys q1 q2 q3 q4) dN) <<< (lv &&& 31))) i2)))])) _
      refine Own.go (fun t k => XS.lload X25.here hx rfl (hb hby at_459) rfl k) ?_
      show Own.Fin p e below (T25.setTop (mkF m 461 #[.val (.long q1), .second, .val (.long q2), .second, .val (.long q3), .second, .val (.long q4), .second, .val (.int p5), .val (.int p6), .val (.int (p5 &&& (7 : Int32))), .val (.ref oa), .val (.int nv), .val (.int wv), .val (.int pv), .val (.int lv), .val (.int (Int32.ofNat dN)), .val (.ref b1), .val (.ref bS), .val (.int (Int32.ofNat (2 ^ wN - 1))), .val (.int (Int32.ofNat (sum4 24 wN uN q1 q2 q3 q4))), .val (.int ((((Int32.ofNat (SN wN uN (bys q1 q2 q3 q4) dN)) <<< (lv &&& 31))) &&& (65535 : Int32))), .val (.int (Int32.ofNat i1)), .val (.int (Int32.ofNat i2))] [(.long q4), (.long q3), (.long q2), (.long q1), (.int (Int32.ofNat (cN wN uN dN (bys q1 q2 q3 q4) (cb (Int32.ofNat (SN wN uN (bys q1 q2 q3 q4) dN) <<< (lv &&& 31))) i2)))])) _
      refine Own.go (fun t k => XS.iload X25.here hx rfl (hb hby at_461) rfl k) ?_
      show Own.Fin p e below (T25.setTop (mkF m 463 #[.val (.long q1), .second, .val (.long q2), .second, .val (.long q3), .second, .val (.long q4), .second, .val (.int p5), .val (.int p6), .val (.int (p5 &&& (7 : Int32))), .val (.ref oa), .val (.int nv), .val (.int wv), .val (.int pv), .val (.int lv), .val (.int (Int32.ofNat dN)), .val (.ref b1), .val (.ref bS), .val (.int (Int32.ofNat (2 ^ wN - 1))), .val (.int (Int32.ofNat (sum4 24 wN uN q1 q2 q3 q4))), .val (.int ((((Int32.ofNat (SN wN uN (bys q1 q2 q3 q4) dN)) <<< (lv &&& 31))) &&& (65535 : Int32))), .val (.int (Int32.ofNat i1)), .val (.int (Int32.ofNat i2))] [(.int wv), (.long q4), (.long q3), (.long q2), (.long q1), (.int (Int32.ofNat (cN wN uN dN (bys q1 q2 q3 q4) (cb (Int32.ofNat (SN wN uN (bys q1 q2 q3 q4) dN) <<< (lv &&& 31))) i2)))])) _
      refine Own.go (fun t k => XS.iload X25.here hx rfl (hb hby at_463) rfl k) ?_
      show Own.Fin p e below (T25.setTop (mkF m 465 #[.val (.long q1), .second, .val (.long q2), .second, .val (.long q3), .second, .val (.long q4), .second, .val (.int p5), .val (.int p6), .val (.int (p5 &&& (7 : Int32))), .val (.ref oa), .val (.int nv), .val (.int wv), .val (.int pv), .val (.int lv), .val (.int (Int32.ofNat dN)), .val (.ref b1), .val (.ref bS), .val (.int (Int32.ofNat (2 ^ wN - 1))), .val (.int (Int32.ofNat (sum4 24 wN uN q1 q2 q3 q4))), .val (.int ((((Int32.ofNat (SN wN uN (bys q1 q2 q3 q4) dN)) <<< (lv &&& 31))) &&& (65535 : Int32))), .val (.int (Int32.ofNat i1)), .val (.int (Int32.ofNat i2))] [(.int (Int32.ofNat (2 ^ wN - 1))), (.int wv), (.long q4), (.long q3), (.long q2), (.long q1), (.int (Int32.ofNat (cN wN uN dN (bys q1 q2 q3 q4) (cb (Int32.ofNat (SN wN uN (bys q1 q2 q3 q4) dN) <<< (lv &&& 31))) i2)))])) _
      refine Own.go (fun t k => XS.iload X25.here hx rfl (hb hby at_465) rfl k) ?_
      show Own.Fin p e below (T25.setTop (mkF m 467 #[.val (.long q1), .second, .val (.long q2), .second, .val (.long q3), .second, .val (.long q4), .second, .val (.int p5), .val (.int p6), .val (.int (p5 &&& (7 : Int32))), .val (.ref oa), .val (.int nv), .val (.int wv), .val (.int pv), .val (.int lv), .val (.int (Int32.ofNat dN)), .val (.ref b1), .val (.ref bS), .val (.int (Int32.ofNat (2 ^ wN - 1))), .val (.int (Int32.ofNat (sum4 24 wN uN q1 q2 q3 q4))), .val (.int ((((Int32.ofNat (SN wN uN (bys q1 q2 q3 q4) dN)) <<< (lv &&& 31))) &&& (65535 : Int32))), .val (.int (Int32.ofNat i1)), .val (.int (Int32.ofNat i2))] [(.int (Int32.ofNat dN)), (.int (Int32.ofNat (2 ^ wN - 1))), (.int wv), (.long q4), (.long q3), (.long q2), (.long q1), (.int (Int32.ofNat (cN wN uN dN (bys q1 q2 q3 q4) (cb (Int32.ofNat (SN wN uN (bys q1 q2 q3 q4) dN) <<< (lv &&& 31))) i2)))])) _
      refine Own.go (fun t k => XS.iload X25.here hx rfl (hb hby at_467) rfl k) ?_
      show Own.Fin p e below (T25.setTop (mkF m 469 #[.val (.long q1), .second, .val (.long q2), .second, .val (.long q3), .second, .val (.long q4), .second, .val (.int p5), .val (.int p6), .val (.int (p5 &&& (7 : Int32))), .val (.ref oa), .val (.int nv), .val (.int wv), .val (.int pv), .val (.int lv), .val (.int (Int32.ofNat dN)), .val (.ref b1), .val (.ref bS), .val (.int (Int32.ofNat (2 ^ wN - 1))), .val (.int (Int32.ofNat (sum4 24 wN uN q1 q2 q3 q4))), .val (.int ((((Int32.ofNat (SN wN uN (bys q1 q2 q3 q4) dN)) <<< (lv &&& 31))) &&& (65535 : Int32))), .val (.int (Int32.ofNat i1)), .val (.int (Int32.ofNat i2))] [(.int ((((Int32.ofNat (SN wN uN (bys q1 q2 q3 q4) dN)) <<< (lv &&& 31))) &&& (65535 : Int32))), (.int (Int32.ofNat dN)), (.int (Int32.ofNat (2 ^ wN - 1))), (.int wv), (.long q4), (.long q3), (.long q2), (.long q1), (.int (Int32.ofNat (cN wN uN dN (bys q1 q2 q3 q4) (cb (Int32.ofNat (SN wN uN (bys q1 q2 q3 q4) dN) <<< (lv &&& 31))) i2)))])) _
      refine Own.go (fun t k => XS.iload X25.here hx rfl (hb hby at_469) rfl k) ?_
      show Own.Fin p e below (T25.setTop (mkF m 471 #[.val (.long q1), .second, .val (.long q2), .second, .val (.long q3), .second, .val (.long q4), .second, .val (.int p5), .val (.int p6), .val (.int (p5 &&& (7 : Int32))), .val (.ref oa), .val (.int nv), .val (.int wv), .val (.int pv), .val (.int lv), .val (.int (Int32.ofNat dN)), .val (.ref b1), .val (.ref bS), .val (.int (Int32.ofNat (2 ^ wN - 1))), .val (.int (Int32.ofNat (sum4 24 wN uN q1 q2 q3 q4))), .val (.int ((((Int32.ofNat (SN wN uN (bys q1 q2 q3 q4) dN)) <<< (lv &&& 31))) &&& (65535 : Int32))), .val (.int (Int32.ofNat i1)), .val (.int (Int32.ofNat i2))] [(.int (Int32.ofNat i2)), (.int ((((Int32.ofNat (SN wN uN (bys q1 q2 q3 q4) dN)) <<< (lv &&& 31))) &&& (65535 : Int32))), (.int (Int32.ofNat dN)), (.int (Int32.ofNat (2 ^ wN - 1))), (.int wv), (.long q4), (.long q3), (.long q2), (.long q1), (.int (Int32.ofNat (cN wN uN dN (bys q1 q2 q3 q4) (cb (Int32.ofNat (SN wN uN (bys q1 q2 q3 q4) dN) <<< (lv &&& 31))) i2)))])) _
      refine Own.cS X25 hx hZ hown (hw _ (List.mem_of_getElem? (i := 33) rfl)) (hw _ (List.mem_of_getElem? (i := 34) rfl)) (hw _ (List.mem_of_getElem? (i := 6) rfl)) (hw _ (List.mem_of_getElem? (i := 35) rfl)) (by decide) (rm5 l Z a0 hw [] q1 q2 q3 q4 wv (Int32.ofNat (2 ^ wN - 1)) (Int32.ofNat dN) ((((Int32.ofNat (SN wN uN (bys q1 q2 q3 q4) dN)) <<< (lv &&& 31))) &&& (65535 : Int32)) (Int32.ofNat i2) T19.heap n0 Z19 ) (by decide) (W := 1) (by decide) (argsL := [(.long q1), (.long q2), (.long q3), (.long q4), (.int wv), (.int (Int32.ofNat (2 ^ wN - 1))), (.int (Int32.ofNat dN)), (.int ((((Int32.ofNat (SN wN uN (bys q1 q2 q3 q4) dN)) <<< (lv &&& 31))) &&& (65535 : Int32))), (.int (Int32.ofNat i2))]) (rest := [(.int (Int32.ofNat (cN wN uN dN (bys q1 q2 q3 q4) (cb (Int32.ofNat (SN wN uN (bys q1 q2 q3 q4) dN) <<< (lv &&& 31))) i2)))]) (by rw [hml]; rfl) (lenOf pd_4 rfl) rfl (Nat.le_of_eq rfl) (hb hby at_471) e25 (by decide) (by decide) ?_
      intro T27 L27 v27 X27 hQ27
      obtain ⟨rfl, N27q, e27⟩ := hQ27
      have N27 := Fr.app N25 N27q
      show Own.Fin p e below (T27.setTop (mkF m 474 #[.val (.long q1), .second, .val (.long q2), .second, .val (.long q3), .second, .val (.long q4), .second, .val (.int p5), .val (.int p6), .val (.int (p5 &&& (7 : Int32))), .val (.ref oa), .val (.int nv), .val (.int wv), .val (.int pv), .val (.int lv), .val (.int (Int32.ofNat dN)), .val (.ref b1), .val (.ref bS), .val (.int (Int32.ofNat (2 ^ wN - 1))), .val (.int (Int32.ofNat (sum4 24 wN uN q1 q2 q3 q4))), .val (.int ((((Int32.ofNat (SN wN uN (bys q1 q2 q3 q4) dN)) <<< (lv &&& 31))) &&& (65535 : Int32))), .val (.int (Int32.ofNat i1)), .val (.int (Int32.ofNat i2))] [(.int (F_exp q1 q2 q3 q4 wv (Int32.ofNat (2 ^ wN - 1)) (Int32.ofNat dN) ((((Int32.ofNat (SN wN uN (bys q1 q2 q3 q4) dN)) <<< (lv &&& 31))) &&& (65535 : Int32)) (Int32.ofNat i2))), (.int (Int32.ofNat (cN wN uN dN (bys q1 q2 q3 q4) (cb (Int32.ofNat (SN wN uN (bys q1 q2 q3 q4) dN) <<< (lv &&& 31))) i2)))])) _
      have hc474_27 : (Int32.ofNat (cN wN uN dN (bys q1 q2 q3 q4) (cb (Int32.ofNat (SN wN uN (bys q1 q2 q3 q4) dN) <<< (lv &&& 31))) i2)) = (F_exp q1 q2 q3 q4 wv (Int32.ofNat (2 ^ wN - 1)) (Int32.ofNat dN) ((((Int32.ofNat (SN wN uN (bys q1 q2 q3 q4) dN)) <<< (lv &&& 31))) &&& (65535 : Int32)) (Int32.ofNat i2)) := (exp_eq hP q1 q2 q3 q4 _ i2 hi2).symm
      refine Own.go (fun t k => XS.icmpNo X27.here hx rfl (hb hby at_474) rfl (teq hc474_27).2 k) ?_
      show Own.Fin p e below (T27.setTop (mkF m 477 #[.val (.long q1), .second, .val (.long q2), .second, .val (.long q3), .second, .val (.long q4), .second, .val (.int p5), .val (.int p6), .val (.int (p5 &&& (7 : Int32))), .val (.ref oa), .val (.int nv), .val (.int wv), .val (.int pv), .val (.int lv), .val (.int (Int32.ofNat dN)), .val (.ref b1), .val (.ref bS), .val (.int (Int32.ofNat (2 ^ wN - 1))), .val (.int (Int32.ofNat (sum4 24 wN uN q1 q2 q3 q4))), .val (.int ((((Int32.ofNat (SN wN uN (bys q1 q2 q3 q4) dN)) <<< (lv &&& 31))) &&& (65535 : Int32))), .val (.int (Int32.ofNat i1)), .val (.int (Int32.ofNat i2))] [])) _
      refine Own.go (fun t k => XS.iconst X27.here hx rfl (hb hby at_477) k) ?_
      show Own.Fin p e below (T27.setTop (mkF m 478 #[.val (.long q1), .second, .val (.long q2), .second, .val (.long q3), .second, .val (.long q4), .second, .val (.int p5), .val (.int p6), .val (.int (p5 &&& (7 : Int32))), .val (.ref oa), .val (.int nv), .val (.int wv), .val (.int pv), .val (.int lv), .val (.int (Int32.ofNat dN)), .val (.ref b1), .val (.ref bS), .val (.int (Int32.ofNat (2 ^ wN - 1))), .val (.int (Int32.ofNat (sum4 24 wN uN q1 q2 q3 q4))), .val (.int ((((Int32.ofNat (SN wN uN (bys q1 q2 q3 q4) dN)) <<< (lv &&& 31))) &&& (65535 : Int32))), .val (.int (Int32.ofNat i1)), .val (.int (Int32.ofNat i2))] [(.int (1 : Int32))])) _
      refine Own.go (fun t k => XS.goto X27.here hx rfl (pc0 := 478) (pc' := 482) rfl (hb hby at_478) (by decide) (by decide) k) ?_
      show Own.Fin p e below (T27.setTop (mkF m 482 #[.val (.long q1), .second, .val (.long q2), .second, .val (.long q3), .second, .val (.long q4), .second, .val (.int p5), .val (.int p6), .val (.int (p5 &&& (7 : Int32))), .val (.ref oa), .val (.int nv), .val (.int wv), .val (.int pv), .val (.int lv), .val (.int (Int32.ofNat dN)), .val (.ref b1), .val (.ref bS), .val (.int (Int32.ofNat (2 ^ wN - 1))), .val (.int (Int32.ofNat (sum4 24 wN uN q1 q2 q3 q4))), .val (.int ((((Int32.ofNat (SN wN uN (bys q1 q2 q3 q4) dN)) <<< (lv &&& 31))) &&& (65535 : Int32))), .val (.int (Int32.ofNat i1)), .val (.int (Int32.ofNat i2))] [(.int (1 : Int32))])) _
      refine Own.retN X27 hx Bd.notSynchronized (t := .boolean) Bd.returns (by simp) (hb hby at_482) (by decide) (by decide) ?_
      exact ⟨rfl, N27⟩
  show Own.Fin p e below (s₁.setTop (mkF m 0 #[.val (.long q1), .second, .val (.long q2), .second, .val (.long q3), .second, .val (.long q4), .second, .val (.int p5), .val (.int p6), .unset, .unset, .unset, .unset, .unset, .unset, .unset, .unset, .unset, .unset, .unset, .unset, .unset, .unset] [])) _
  refine Own.go (fun t k => XS.iload X0.here hx rfl (hb hby at_0) rfl k) ?_
  show Own.Fin p e below (s₁.setTop (mkF m 2 #[.val (.long q1), .second, .val (.long q2), .second, .val (.long q3), .second, .val (.long q4), .second, .val (.int p5), .val (.int p6), .unset, .unset, .unset, .unset, .unset, .unset, .unset, .unset, .unset, .unset, .unset, .unset, .unset, .unset] [(.int p5)])) _
  refine Own.go (fun t k => XS.bipush X0.here hx rfl (hb hby at_2) k) ?_
  show Own.Fin p e below (s₁.setTop (mkF m 4 #[.val (.long q1), .second, .val (.long q2), .second, .val (.long q3), .second, .val (.long q4), .second, .val (.int p5), .val (.int p6), .unset, .unset, .unset, .unset, .unset, .unset, .unset, .unset, .unset, .unset, .unset, .unset, .unset, .unset] [(.int (7 : Int32)), (.int p5)])) _
  refine Own.go (fun t k => XS.iand X0.here hx rfl (hb hby at_4) rfl k) ?_
  show Own.Fin p e below (s₁.setTop (mkF m 5 #[.val (.long q1), .second, .val (.long q2), .second, .val (.long q3), .second, .val (.long q4), .second, .val (.int p5), .val (.int p6), .unset, .unset, .unset, .unset, .unset, .unset, .unset, .unset, .unset, .unset, .unset, .unset, .unset, .unset] [(.int (p5 &&& (7 : Int32)))])) _
  refine Own.go (fun t k => XS.istore X0.here hx rfl (hb hby at_5) rfl (l' := #[.val (.long q1), .second, .val (.long q2), .second, .val (.long q3), .second, .val (.long q4), .second, .val (.int p5), .val (.int p6), .val (.int (p5 &&& (7 : Int32))), .unset, .unset, .unset, .unset, .unset, .unset, .unset, .unset, .unset, .unset, .unset, .unset, .unset]) rfl k) ?_
  show Own.Fin p e below (s₁.setTop (mkF m 7 #[.val (.long q1), .second, .val (.long q2), .second, .val (.long q3), .second, .val (.long q4), .second, .val (.int p5), .val (.int p6), .val (.int (p5 &&& (7 : Int32))), .unset, .unset, .unset, .unset, .unset, .unset, .unset, .unset, .unset, .unset, .unset, .unset, .unset] [])) _
  refine Own.go (fun t k => XS.iload X0.here hx rfl (hb hby at_7) rfl k) ?_
  show Own.Fin p e below (s₁.setTop (mkF m 9 #[.val (.long q1), .second, .val (.long q2), .second, .val (.long q3), .second, .val (.long q4), .second, .val (.int p5), .val (.int p6), .val (.int (p5 &&& (7 : Int32))), .unset, .unset, .unset, .unset, .unset, .unset, .unset, .unset, .unset, .unset, .unset, .unset, .unset] [(.int (p5 &&& (7 : Int32)))])) _
  by_cases hc9_28 : (p5 &&& (7 : Int32)) = (0 : Int32)
  · skip
    refine Own.go (fun t k => XS.ifNo X0.here hx rfl (hb hby at_9) rfl ((if0 _ _).trans (teq hc9_28).2) k) ?_
    show Own.Fin p e below (s₁.setTop (mkF m 12 #[.val (.long q1), .second, .val (.long q2), .second, .val (.long q3), .second, .val (.long q4), .second, .val (.int p5), .val (.int p6), .val (.int (p5 &&& (7 : Int32))), .unset, .unset, .unset, .unset, .unset, .unset, .unset, .unset, .unset, .unset, .unset, .unset, .unset] [])) _
    obtain ⟨T30, X30, e30, st30⟩ := getS2 X0 hx hZ hown (host := "") (Or.inl (hw _ (List.mem_of_getElem? (i := 46) rfl))) Via.refl e0 (S_aN32_W1.ext O0.2) (g := (mkF m 12 #[.val (.long q1), .second, .val (.long q2), .second, .val (.long q3), .second, .val (.long q4), .second, .val (.int p5), .val (.int p6), .val (.int (p5 &&& (7 : Int32))), .unset, .unset, .unset, .unset, .unset, .unset, .unset, .unset, .unset, .unset, .unset, .unset, .unset] [])) rfl (hb hby at_12)
    refine Own.go st30 ?_
    show Own.Fin p e below (T30.setTop (mkF m 15 #[.val (.long q1), .second, .val (.long q2), .second, .val (.long q3), .second, .val (.long q4), .second, .val (.int p5), .val (.int p6), .val (.int (p5 &&& (7 : Int32))), .unset, .unset, .unset, .unset, .unset, .unset, .unset, .unset, .unset, .unset, .unset, .unset, .unset] [(.ref aN32_W1)])) _
    refine Own.go (fun t k => XS.astore X30.here hx rfl (hb hby at_15) rfl rfl (l' := #[.val (.long q1), .second, .val (.long q2), .second, .val (.long q3), .second, .val (.long q4), .second, .val (.int p5), .val (.int p6), .val (.int (p5 &&& (7 : Int32))), .val (.ref aN32_W1), .unset, .unset, .unset, .unset, .unset, .unset, .unset, .unset, .unset, .unset, .unset, .unset]) rfl k) ?_
    show Own.Fin p e below (T30.setTop (mkF m 17 #[.val (.long q1), .second, .val (.long q2), .second, .val (.long q3), .second, .val (.long q4), .second, .val (.int p5), .val (.int p6), .val (.int (p5 &&& (7 : Int32))), .val (.ref aN32_W1), .unset, .unset, .unset, .unset, .unset, .unset, .unset, .unset, .unset, .unset, .unset, .unset] [])) _
    refine Own.go (fun t k => XS.bipush X30.here hx rfl (hb hby at_17) k) ?_
    show Own.Fin p e below (T30.setTop (mkF m 19 #[.val (.long q1), .second, .val (.long q2), .second, .val (.long q3), .second, .val (.long q4), .second, .val (.int p5), .val (.int p6), .val (.int (p5 &&& (7 : Int32))), .val (.ref aN32_W1), .unset, .unset, .unset, .unset, .unset, .unset, .unset, .unset, .unset, .unset, .unset, .unset] [(.int (32 : Int32))])) _
    refine Own.go (fun t k => XS.istore X30.here hx rfl (hb hby at_19) rfl (l' := #[.val (.long q1), .second, .val (.long q2), .second, .val (.long q3), .second, .val (.long q4), .second, .val (.int p5), .val (.int p6), .val (.int (p5 &&& (7 : Int32))), .val (.ref aN32_W1), .val (.int (32 : Int32)), .unset, .unset, .unset, .unset, .unset, .unset, .unset, .unset, .unset, .unset, .unset]) rfl k) ?_
    show Own.Fin p e below (T30.setTop (mkF m 21 #[.val (.long q1), .second, .val (.long q2), .second, .val (.long q3), .second, .val (.long q4), .second, .val (.int p5), .val (.int p6), .val (.int (p5 &&& (7 : Int32))), .val (.ref aN32_W1), .val (.int (32 : Int32)), .unset, .unset, .unset, .unset, .unset, .unset, .unset, .unset, .unset, .unset, .unset] [])) _
    refine Own.go (fun t k => XS.iconst X30.here hx rfl (hb hby at_21) k) ?_
    show Own.Fin p e below (T30.setTop (mkF m 22 #[.val (.long q1), .second, .val (.long q2), .second, .val (.long q3), .second, .val (.long q4), .second, .val (.int p5), .val (.int p6), .val (.int (p5 &&& (7 : Int32))), .val (.ref aN32_W1), .val (.int (32 : Int32)), .unset, .unset, .unset, .unset, .unset, .unset, .unset, .unset, .unset, .unset, .unset] [(.int (1 : Int32))])) _
    refine Own.go (fun t k => XS.istore X30.here hx rfl (hb hby at_22) rfl (l' := #[.val (.long q1), .second, .val (.long q2), .second, .val (.long q3), .second, .val (.long q4), .second, .val (.int p5), .val (.int p6), .val (.int (p5 &&& (7 : Int32))), .val (.ref aN32_W1), .val (.int (32 : Int32)), .val (.int (1 : Int32)), .unset, .unset, .unset, .unset, .unset, .unset, .unset, .unset, .unset, .unset]) rfl k) ?_
    show Own.Fin p e below (T30.setTop (mkF m 24 #[.val (.long q1), .second, .val (.long q2), .second, .val (.long q3), .second, .val (.long q4), .second, .val (.int p5), .val (.int p6), .val (.int (p5 &&& (7 : Int32))), .val (.ref aN32_W1), .val (.int (32 : Int32)), .val (.int (1 : Int32)), .unset, .unset, .unset, .unset, .unset, .unset, .unset, .unset, .unset, .unset] [])) _
    refine Own.go (fun t k => XS.sipush X30.here hx rfl (hb hby at_24) k) ?_
    show Own.Fin p e below (T30.setTop (mkF m 27 #[.val (.long q1), .second, .val (.long q2), .second, .val (.long q3), .second, .val (.long q4), .second, .val (.int p5), .val (.int p6), .val (.int (p5 &&& (7 : Int32))), .val (.ref aN32_W1), .val (.int (32 : Int32)), .val (.int (1 : Int32)), .unset, .unset, .unset, .unset, .unset, .unset, .unset, .unset, .unset, .unset] [(.int (265 : Int32))])) _
    refine Own.go (fun t k => XS.istore X30.here hx rfl (hb hby at_27) rfl (l' := #[.val (.long q1), .second, .val (.long q2), .second, .val (.long q3), .second, .val (.long q4), .second, .val (.int p5), .val (.int p6), .val (.int (p5 &&& (7 : Int32))), .val (.ref aN32_W1), .val (.int (32 : Int32)), .val (.int (1 : Int32)), .val (.int (265 : Int32)), .unset, .unset, .unset, .unset, .unset, .unset, .unset, .unset, .unset]) rfl k) ?_
    show Own.Fin p e below (T30.setTop (mkF m 29 #[.val (.long q1), .second, .val (.long q2), .second, .val (.long q3), .second, .val (.long q4), .second, .val (.int p5), .val (.int p6), .val (.int (p5 &&& (7 : Int32))), .val (.ref aN32_W1), .val (.int (32 : Int32)), .val (.int (1 : Int32)), .val (.int (265 : Int32)), .unset, .unset, .unset, .unset, .unset, .unset, .unset, .unset, .unset] [])) _
    refine Own.go (fun t k => XS.bipush X30.here hx rfl (hb hby at_29) k) ?_
    show Own.Fin p e below (T30.setTop (mkF m 31 #[.val (.long q1), .second, .val (.long q2), .second, .val (.long q3), .second, .val (.long q4), .second, .val (.int p5), .val (.int p6), .val (.int (p5 &&& (7 : Int32))), .val (.ref aN32_W1), .val (.int (32 : Int32)), .val (.int (1 : Int32)), .val (.int (265 : Int32)), .unset, .unset, .unset, .unset, .unset, .unset, .unset, .unset, .unset] [(.int (7 : Int32))])) _
    refine Own.go (fun t k => XS.istore X30.here hx rfl (hb hby at_31) rfl (l' := #[.val (.long q1), .second, .val (.long q2), .second, .val (.long q3), .second, .val (.long q4), .second, .val (.int p5), .val (.int p6), .val (.int (p5 &&& (7 : Int32))), .val (.ref aN32_W1), .val (.int (32 : Int32)), .val (.int (1 : Int32)), .val (.int (265 : Int32)), .val (.int (7 : Int32)), .unset, .unset, .unset, .unset, .unset, .unset, .unset, .unset]) rfl k) ?_
    show Own.Fin p e below (T30.setTop (mkF m 33 #[.val (.long q1), .second, .val (.long q2), .second, .val (.long q3), .second, .val (.long q4), .second, .val (.int p5), .val (.int p6), .val (.int (p5 &&& (7 : Int32))), .val (.ref aN32_W1), .val (.int (32 : Int32)), .val (.int (1 : Int32)), .val (.int (265 : Int32)), .val (.int (7 : Int32)), .unset, .unset, .unset, .unset, .unset, .unset, .unset, .unset] [])) _
    refine Own.go (fun t k => XS.sipush X30.here hx rfl (hb hby at_33) k) ?_
    show Own.Fin p e below (T30.setTop (mkF m 36 #[.val (.long q1), .second, .val (.long q2), .second, .val (.long q3), .second, .val (.long q4), .second, .val (.int p5), .val (.int p6), .val (.int (p5 &&& (7 : Int32))), .val (.ref aN32_W1), .val (.int (32 : Int32)), .val (.int (1 : Int32)), .val (.int (265 : Int32)), .val (.int (7 : Int32)), .unset, .unset, .unset, .unset, .unset, .unset, .unset, .unset] [(.int (256 : Int32))])) _
    refine Own.go (fun t k => XS.istore X30.here hx rfl (hb hby at_36) rfl (l' := #[.val (.long q1), .second, .val (.long q2), .second, .val (.long q3), .second, .val (.long q4), .second, .val (.int p5), .val (.int p6), .val (.int (p5 &&& (7 : Int32))), .val (.ref aN32_W1), .val (.int (32 : Int32)), .val (.int (1 : Int32)), .val (.int (265 : Int32)), .val (.int (7 : Int32)), .val (.int (256 : Int32)), .unset, .unset, .unset, .unset, .unset, .unset, .unset]) rfl k) ?_
    show Own.Fin p e below (T30.setTop (mkF m 38 #[.val (.long q1), .second, .val (.long q2), .second, .val (.long q3), .second, .val (.long q4), .second, .val (.int p5), .val (.int p6), .val (.int (p5 &&& (7 : Int32))), .val (.ref aN32_W1), .val (.int (32 : Int32)), .val (.int (1 : Int32)), .val (.int (265 : Int32)), .val (.int (7 : Int32)), .val (.int (256 : Int32)), .unset, .unset, .unset, .unset, .unset, .unset, .unset] [])) _
    refine Own.go (fun t k => XS.goto X30.here hx rfl (pc0 := 38) (pc' := 266) rfl (hb hby at_38) (by decide) (by decide) k) ?_
    show Own.Fin p e below (T30.setTop (mkF m 266 #[.val (.long q1), .second, .val (.long q2), .second, .val (.long q3), .second, .val (.long q4), .second, .val (.int p5), .val (.int p6), .val (.int (p5 &&& (7 : Int32))), .val (.ref aN32_W1), .val (.int (32 : Int32)), .val (.int (1 : Int32)), .val (.int (265 : Int32)), .val (.int (7 : Int32)), .val (.int (256 : Int32)), .unset, .unset, .unset, .unset, .unset, .unset, .unset] [])) _
    exact join _ X30 e30 aN32_W1 (1 : Int32) (32 : Int32) (265 : Int32) (7 : Int32) 1 8 32 256 265 (by decide) E_aN32_W1 F_w_aN32_W1 F_n_aN32_W1 F_p_aN32_W1 F_ls_aN32_W1
  · skip
    refine Own.go (fun t k => XS.ifYes X0.here hx rfl (pc0 := 9) (pc' := 41) rfl (hb hby at_9) rfl ((if0 _ _).trans (feq hc9_28).2) (by decide) (by decide) k) ?_
    show Own.Fin p e below (s₁.setTop (mkF m 41 #[.val (.long q1), .second, .val (.long q2), .second, .val (.long q3), .second, .val (.long q4), .second, .val (.int p5), .val (.int p6), .val (.int (p5 &&& (7 : Int32))), .unset, .unset, .unset, .unset, .unset, .unset, .unset, .unset, .unset, .unset, .unset, .unset, .unset] [])) _
    refine Own.go (fun t k => XS.iload X0.here hx rfl (hb hby at_41) rfl k) ?_
    show Own.Fin p e below (s₁.setTop (mkF m 43 #[.val (.long q1), .second, .val (.long q2), .second, .val (.long q3), .second, .val (.long q4), .second, .val (.int p5), .val (.int p6), .val (.int (p5 &&& (7 : Int32))), .unset, .unset, .unset, .unset, .unset, .unset, .unset, .unset, .unset, .unset, .unset, .unset, .unset] [(.int (p5 &&& (7 : Int32)))])) _
    refine Own.go (fun t k => XS.iconst X0.here hx rfl (hb hby at_43) k) ?_
    show Own.Fin p e below (s₁.setTop (mkF m 44 #[.val (.long q1), .second, .val (.long q2), .second, .val (.long q3), .second, .val (.long q4), .second, .val (.int p5), .val (.int p6), .val (.int (p5 &&& (7 : Int32))), .unset, .unset, .unset, .unset, .unset, .unset, .unset, .unset, .unset, .unset, .unset, .unset, .unset] [(.int (1 : Int32)), (.int (p5 &&& (7 : Int32)))])) _
    by_cases hc44_30 : (p5 &&& (7 : Int32)) = (1 : Int32)
    · skip
      refine Own.go (fun t k => XS.icmpNo X0.here hx rfl (hb hby at_44) rfl (teq hc44_30).2 k) ?_
      show Own.Fin p e below (s₁.setTop (mkF m 47 #[.val (.long q1), .second, .val (.long q2), .second, .val (.long q3), .second, .val (.long q4), .second, .val (.int p5), .val (.int p6), .val (.int (p5 &&& (7 : Int32))), .unset, .unset, .unset, .unset, .unset, .unset, .unset, .unset, .unset, .unset, .unset, .unset, .unset] [])) _
      obtain ⟨T32, X32, e32, st32⟩ := getS2 X0 hx hZ hown (host := "") (Or.inl (hw _ (List.mem_of_getElem? (i := 40) rfl))) Via.refl e0 (S_aN32_W2.ext O0.2) (g := (mkF m 47 #[.val (.long q1), .second, .val (.long q2), .second, .val (.long q3), .second, .val (.long q4), .second, .val (.int p5), .val (.int p6), .val (.int (p5 &&& (7 : Int32))), .unset, .unset, .unset, .unset, .unset, .unset, .unset, .unset, .unset, .unset, .unset, .unset, .unset] [])) rfl (hb hby at_47)
      refine Own.go st32 ?_
      show Own.Fin p e below (T32.setTop (mkF m 50 #[.val (.long q1), .second, .val (.long q2), .second, .val (.long q3), .second, .val (.long q4), .second, .val (.int p5), .val (.int p6), .val (.int (p5 &&& (7 : Int32))), .unset, .unset, .unset, .unset, .unset, .unset, .unset, .unset, .unset, .unset, .unset, .unset, .unset] [(.ref aN32_W2)])) _
      refine Own.go (fun t k => XS.astore X32.here hx rfl (hb hby at_50) rfl rfl (l' := #[.val (.long q1), .second, .val (.long q2), .second, .val (.long q3), .second, .val (.long q4), .second, .val (.int p5), .val (.int p6), .val (.int (p5 &&& (7 : Int32))), .val (.ref aN32_W2), .unset, .unset, .unset, .unset, .unset, .unset, .unset, .unset, .unset, .unset, .unset, .unset]) rfl k) ?_
      show Own.Fin p e below (T32.setTop (mkF m 52 #[.val (.long q1), .second, .val (.long q2), .second, .val (.long q3), .second, .val (.long q4), .second, .val (.int p5), .val (.int p6), .val (.int (p5 &&& (7 : Int32))), .val (.ref aN32_W2), .unset, .unset, .unset, .unset, .unset, .unset, .unset, .unset, .unset, .unset, .unset, .unset] [])) _
      refine Own.go (fun t k => XS.bipush X32.here hx rfl (hb hby at_52) k) ?_
      show Own.Fin p e below (T32.setTop (mkF m 54 #[.val (.long q1), .second, .val (.long q2), .second, .val (.long q3), .second, .val (.long q4), .second, .val (.int p5), .val (.int p6), .val (.int (p5 &&& (7 : Int32))), .val (.ref aN32_W2), .unset, .unset, .unset, .unset, .unset, .unset, .unset, .unset, .unset, .unset, .unset, .unset] [(.int (32 : Int32))])) _
      refine Own.go (fun t k => XS.istore X32.here hx rfl (hb hby at_54) rfl (l' := #[.val (.long q1), .second, .val (.long q2), .second, .val (.long q3), .second, .val (.long q4), .second, .val (.int p5), .val (.int p6), .val (.int (p5 &&& (7 : Int32))), .val (.ref aN32_W2), .val (.int (32 : Int32)), .unset, .unset, .unset, .unset, .unset, .unset, .unset, .unset, .unset, .unset, .unset]) rfl k) ?_
      show Own.Fin p e below (T32.setTop (mkF m 56 #[.val (.long q1), .second, .val (.long q2), .second, .val (.long q3), .second, .val (.long q4), .second, .val (.int p5), .val (.int p6), .val (.int (p5 &&& (7 : Int32))), .val (.ref aN32_W2), .val (.int (32 : Int32)), .unset, .unset, .unset, .unset, .unset, .unset, .unset, .unset, .unset, .unset, .unset] [])) _
      refine Own.go (fun t k => XS.iconst X32.here hx rfl (hb hby at_56) k) ?_
      show Own.Fin p e below (T32.setTop (mkF m 57 #[.val (.long q1), .second, .val (.long q2), .second, .val (.long q3), .second, .val (.long q4), .second, .val (.int p5), .val (.int p6), .val (.int (p5 &&& (7 : Int32))), .val (.ref aN32_W2), .val (.int (32 : Int32)), .unset, .unset, .unset, .unset, .unset, .unset, .unset, .unset, .unset, .unset, .unset] [(.int (2 : Int32))])) _
      refine Own.go (fun t k => XS.istore X32.here hx rfl (hb hby at_57) rfl (l' := #[.val (.long q1), .second, .val (.long q2), .second, .val (.long q3), .second, .val (.long q4), .second, .val (.int p5), .val (.int p6), .val (.int (p5 &&& (7 : Int32))), .val (.ref aN32_W2), .val (.int (32 : Int32)), .val (.int (2 : Int32)), .unset, .unset, .unset, .unset, .unset, .unset, .unset, .unset, .unset, .unset]) rfl k) ?_
      show Own.Fin p e below (T32.setTop (mkF m 59 #[.val (.long q1), .second, .val (.long q2), .second, .val (.long q3), .second, .val (.long q4), .second, .val (.int p5), .val (.int p6), .val (.int (p5 &&& (7 : Int32))), .val (.ref aN32_W2), .val (.int (32 : Int32)), .val (.int (2 : Int32)), .unset, .unset, .unset, .unset, .unset, .unset, .unset, .unset, .unset, .unset] [])) _
      refine Own.go (fun t k => XS.sipush X32.here hx rfl (hb hby at_59) k) ?_
      show Own.Fin p e below (T32.setTop (mkF m 62 #[.val (.long q1), .second, .val (.long q2), .second, .val (.long q3), .second, .val (.long q4), .second, .val (.int p5), .val (.int p6), .val (.int (p5 &&& (7 : Int32))), .val (.ref aN32_W2), .val (.int (32 : Int32)), .val (.int (2 : Int32)), .unset, .unset, .unset, .unset, .unset, .unset, .unset, .unset, .unset, .unset] [(.int (133 : Int32))])) _
      refine Own.go (fun t k => XS.istore X32.here hx rfl (hb hby at_62) rfl (l' := #[.val (.long q1), .second, .val (.long q2), .second, .val (.long q3), .second, .val (.long q4), .second, .val (.int p5), .val (.int p6), .val (.int (p5 &&& (7 : Int32))), .val (.ref aN32_W2), .val (.int (32 : Int32)), .val (.int (2 : Int32)), .val (.int (133 : Int32)), .unset, .unset, .unset, .unset, .unset, .unset, .unset, .unset, .unset]) rfl k) ?_
      show Own.Fin p e below (T32.setTop (mkF m 64 #[.val (.long q1), .second, .val (.long q2), .second, .val (.long q3), .second, .val (.long q4), .second, .val (.int p5), .val (.int p6), .val (.int (p5 &&& (7 : Int32))), .val (.ref aN32_W2), .val (.int (32 : Int32)), .val (.int (2 : Int32)), .val (.int (133 : Int32)), .unset, .unset, .unset, .unset, .unset, .unset, .unset, .unset, .unset] [])) _
      refine Own.go (fun t k => XS.bipush X32.here hx rfl (hb hby at_64) k) ?_
      show Own.Fin p e below (T32.setTop (mkF m 66 #[.val (.long q1), .second, .val (.long q2), .second, .val (.long q3), .second, .val (.long q4), .second, .val (.int p5), .val (.int p6), .val (.int (p5 &&& (7 : Int32))), .val (.ref aN32_W2), .val (.int (32 : Int32)), .val (.int (2 : Int32)), .val (.int (133 : Int32)), .unset, .unset, .unset, .unset, .unset, .unset, .unset, .unset, .unset] [(.int (6 : Int32))])) _
      refine Own.go (fun t k => XS.istore X32.here hx rfl (hb hby at_66) rfl (l' := #[.val (.long q1), .second, .val (.long q2), .second, .val (.long q3), .second, .val (.long q4), .second, .val (.int p5), .val (.int p6), .val (.int (p5 &&& (7 : Int32))), .val (.ref aN32_W2), .val (.int (32 : Int32)), .val (.int (2 : Int32)), .val (.int (133 : Int32)), .val (.int (6 : Int32)), .unset, .unset, .unset, .unset, .unset, .unset, .unset, .unset]) rfl k) ?_
      show Own.Fin p e below (T32.setTop (mkF m 68 #[.val (.long q1), .second, .val (.long q2), .second, .val (.long q3), .second, .val (.long q4), .second, .val (.int p5), .val (.int p6), .val (.int (p5 &&& (7 : Int32))), .val (.ref aN32_W2), .val (.int (32 : Int32)), .val (.int (2 : Int32)), .val (.int (133 : Int32)), .val (.int (6 : Int32)), .unset, .unset, .unset, .unset, .unset, .unset, .unset, .unset] [])) _
      refine Own.go (fun t k => XS.sipush X32.here hx rfl (hb hby at_68) k) ?_
      show Own.Fin p e below (T32.setTop (mkF m 71 #[.val (.long q1), .second, .val (.long q2), .second, .val (.long q3), .second, .val (.long q4), .second, .val (.int p5), .val (.int p6), .val (.int (p5 &&& (7 : Int32))), .val (.ref aN32_W2), .val (.int (32 : Int32)), .val (.int (2 : Int32)), .val (.int (133 : Int32)), .val (.int (6 : Int32)), .unset, .unset, .unset, .unset, .unset, .unset, .unset, .unset] [(.int (128 : Int32))])) _
      refine Own.go (fun t k => XS.istore X32.here hx rfl (hb hby at_71) rfl (l' := #[.val (.long q1), .second, .val (.long q2), .second, .val (.long q3), .second, .val (.long q4), .second, .val (.int p5), .val (.int p6), .val (.int (p5 &&& (7 : Int32))), .val (.ref aN32_W2), .val (.int (32 : Int32)), .val (.int (2 : Int32)), .val (.int (133 : Int32)), .val (.int (6 : Int32)), .val (.int (128 : Int32)), .unset, .unset, .unset, .unset, .unset, .unset, .unset]) rfl k) ?_
      show Own.Fin p e below (T32.setTop (mkF m 73 #[.val (.long q1), .second, .val (.long q2), .second, .val (.long q3), .second, .val (.long q4), .second, .val (.int p5), .val (.int p6), .val (.int (p5 &&& (7 : Int32))), .val (.ref aN32_W2), .val (.int (32 : Int32)), .val (.int (2 : Int32)), .val (.int (133 : Int32)), .val (.int (6 : Int32)), .val (.int (128 : Int32)), .unset, .unset, .unset, .unset, .unset, .unset, .unset] [])) _
      refine Own.go (fun t k => XS.goto X32.here hx rfl (pc0 := 73) (pc' := 266) rfl (hb hby at_73) (by decide) (by decide) k) ?_
      show Own.Fin p e below (T32.setTop (mkF m 266 #[.val (.long q1), .second, .val (.long q2), .second, .val (.long q3), .second, .val (.long q4), .second, .val (.int p5), .val (.int p6), .val (.int (p5 &&& (7 : Int32))), .val (.ref aN32_W2), .val (.int (32 : Int32)), .val (.int (2 : Int32)), .val (.int (133 : Int32)), .val (.int (6 : Int32)), .val (.int (128 : Int32)), .unset, .unset, .unset, .unset, .unset, .unset, .unset] [])) _
      exact join _ X32 e32 aN32_W2 (2 : Int32) (32 : Int32) (133 : Int32) (6 : Int32) 2 4 32 128 133 (by decide) E_aN32_W2 F_w_aN32_W2 F_n_aN32_W2 F_p_aN32_W2 F_ls_aN32_W2
    · skip
      refine Own.go (fun t k => XS.icmpYes X0.here hx rfl (pc0 := 44) (pc' := 76) rfl (hb hby at_44) rfl (feq hc44_30).2 (by decide) (by decide) k) ?_
      show Own.Fin p e below (s₁.setTop (mkF m 76 #[.val (.long q1), .second, .val (.long q2), .second, .val (.long q3), .second, .val (.long q4), .second, .val (.int p5), .val (.int p6), .val (.int (p5 &&& (7 : Int32))), .unset, .unset, .unset, .unset, .unset, .unset, .unset, .unset, .unset, .unset, .unset, .unset, .unset] [])) _
      refine Own.go (fun t k => XS.iload X0.here hx rfl (hb hby at_76) rfl k) ?_
      show Own.Fin p e below (s₁.setTop (mkF m 78 #[.val (.long q1), .second, .val (.long q2), .second, .val (.long q3), .second, .val (.long q4), .second, .val (.int p5), .val (.int p6), .val (.int (p5 &&& (7 : Int32))), .unset, .unset, .unset, .unset, .unset, .unset, .unset, .unset, .unset, .unset, .unset, .unset, .unset] [(.int (p5 &&& (7 : Int32)))])) _
      refine Own.go (fun t k => XS.iconst X0.here hx rfl (hb hby at_78) k) ?_
      show Own.Fin p e below (s₁.setTop (mkF m 79 #[.val (.long q1), .second, .val (.long q2), .second, .val (.long q3), .second, .val (.long q4), .second, .val (.int p5), .val (.int p6), .val (.int (p5 &&& (7 : Int32))), .unset, .unset, .unset, .unset, .unset, .unset, .unset, .unset, .unset, .unset, .unset, .unset, .unset] [(.int (2 : Int32)), (.int (p5 &&& (7 : Int32)))])) _
      by_cases hc79_32 : (p5 &&& (7 : Int32)) = (2 : Int32)
      · skip
        refine Own.go (fun t k => XS.icmpNo X0.here hx rfl (hb hby at_79) rfl (teq hc79_32).2 k) ?_
        show Own.Fin p e below (s₁.setTop (mkF m 82 #[.val (.long q1), .second, .val (.long q2), .second, .val (.long q3), .second, .val (.long q4), .second, .val (.int p5), .val (.int p6), .val (.int (p5 &&& (7 : Int32))), .unset, .unset, .unset, .unset, .unset, .unset, .unset, .unset, .unset, .unset, .unset, .unset, .unset] [])) _
        obtain ⟨T34, X34, e34, st34⟩ := getS2 X0 hx hZ hown (host := "") (Or.inl (hw _ (List.mem_of_getElem? (i := 44) rfl))) Via.refl e0 (S_aN32_W4.ext O0.2) (g := (mkF m 82 #[.val (.long q1), .second, .val (.long q2), .second, .val (.long q3), .second, .val (.long q4), .second, .val (.int p5), .val (.int p6), .val (.int (p5 &&& (7 : Int32))), .unset, .unset, .unset, .unset, .unset, .unset, .unset, .unset, .unset, .unset, .unset, .unset, .unset] [])) rfl (hb hby at_82)
        refine Own.go st34 ?_
        show Own.Fin p e below (T34.setTop (mkF m 85 #[.val (.long q1), .second, .val (.long q2), .second, .val (.long q3), .second, .val (.long q4), .second, .val (.int p5), .val (.int p6), .val (.int (p5 &&& (7 : Int32))), .unset, .unset, .unset, .unset, .unset, .unset, .unset, .unset, .unset, .unset, .unset, .unset, .unset] [(.ref aN32_W4)])) _
        refine Own.go (fun t k => XS.astore X34.here hx rfl (hb hby at_85) rfl rfl (l' := #[.val (.long q1), .second, .val (.long q2), .second, .val (.long q3), .second, .val (.long q4), .second, .val (.int p5), .val (.int p6), .val (.int (p5 &&& (7 : Int32))), .val (.ref aN32_W4), .unset, .unset, .unset, .unset, .unset, .unset, .unset, .unset, .unset, .unset, .unset, .unset]) rfl k) ?_
        show Own.Fin p e below (T34.setTop (mkF m 87 #[.val (.long q1), .second, .val (.long q2), .second, .val (.long q3), .second, .val (.long q4), .second, .val (.int p5), .val (.int p6), .val (.int (p5 &&& (7 : Int32))), .val (.ref aN32_W4), .unset, .unset, .unset, .unset, .unset, .unset, .unset, .unset, .unset, .unset, .unset, .unset] [])) _
        refine Own.go (fun t k => XS.bipush X34.here hx rfl (hb hby at_87) k) ?_
        show Own.Fin p e below (T34.setTop (mkF m 89 #[.val (.long q1), .second, .val (.long q2), .second, .val (.long q3), .second, .val (.long q4), .second, .val (.int p5), .val (.int p6), .val (.int (p5 &&& (7 : Int32))), .val (.ref aN32_W4), .unset, .unset, .unset, .unset, .unset, .unset, .unset, .unset, .unset, .unset, .unset, .unset] [(.int (32 : Int32))])) _
        refine Own.go (fun t k => XS.istore X34.here hx rfl (hb hby at_89) rfl (l' := #[.val (.long q1), .second, .val (.long q2), .second, .val (.long q3), .second, .val (.long q4), .second, .val (.int p5), .val (.int p6), .val (.int (p5 &&& (7 : Int32))), .val (.ref aN32_W4), .val (.int (32 : Int32)), .unset, .unset, .unset, .unset, .unset, .unset, .unset, .unset, .unset, .unset, .unset]) rfl k) ?_
        show Own.Fin p e below (T34.setTop (mkF m 91 #[.val (.long q1), .second, .val (.long q2), .second, .val (.long q3), .second, .val (.long q4), .second, .val (.int p5), .val (.int p6), .val (.int (p5 &&& (7 : Int32))), .val (.ref aN32_W4), .val (.int (32 : Int32)), .unset, .unset, .unset, .unset, .unset, .unset, .unset, .unset, .unset, .unset, .unset] [])) _
        refine Own.go (fun t k => XS.iconst X34.here hx rfl (hb hby at_91) k) ?_
        show Own.Fin p e below (T34.setTop (mkF m 92 #[.val (.long q1), .second, .val (.long q2), .second, .val (.long q3), .second, .val (.long q4), .second, .val (.int p5), .val (.int p6), .val (.int (p5 &&& (7 : Int32))), .val (.ref aN32_W4), .val (.int (32 : Int32)), .unset, .unset, .unset, .unset, .unset, .unset, .unset, .unset, .unset, .unset, .unset] [(.int (4 : Int32))])) _
        refine Own.go (fun t k => XS.istore X34.here hx rfl (hb hby at_92) rfl (l' := #[.val (.long q1), .second, .val (.long q2), .second, .val (.long q3), .second, .val (.long q4), .second, .val (.int p5), .val (.int p6), .val (.int (p5 &&& (7 : Int32))), .val (.ref aN32_W4), .val (.int (32 : Int32)), .val (.int (4 : Int32)), .unset, .unset, .unset, .unset, .unset, .unset, .unset, .unset, .unset, .unset]) rfl k) ?_
        show Own.Fin p e below (T34.setTop (mkF m 94 #[.val (.long q1), .second, .val (.long q2), .second, .val (.long q3), .second, .val (.long q4), .second, .val (.int p5), .val (.int p6), .val (.int (p5 &&& (7 : Int32))), .val (.ref aN32_W4), .val (.int (32 : Int32)), .val (.int (4 : Int32)), .unset, .unset, .unset, .unset, .unset, .unset, .unset, .unset, .unset, .unset] [])) _
        refine Own.go (fun t k => XS.bipush X34.here hx rfl (hb hby at_94) k) ?_
        show Own.Fin p e below (T34.setTop (mkF m 96 #[.val (.long q1), .second, .val (.long q2), .second, .val (.long q3), .second, .val (.long q4), .second, .val (.int p5), .val (.int p6), .val (.int (p5 &&& (7 : Int32))), .val (.ref aN32_W4), .val (.int (32 : Int32)), .val (.int (4 : Int32)), .unset, .unset, .unset, .unset, .unset, .unset, .unset, .unset, .unset, .unset] [(.int (67 : Int32))])) _
        refine Own.go (fun t k => XS.istore X34.here hx rfl (hb hby at_96) rfl (l' := #[.val (.long q1), .second, .val (.long q2), .second, .val (.long q3), .second, .val (.long q4), .second, .val (.int p5), .val (.int p6), .val (.int (p5 &&& (7 : Int32))), .val (.ref aN32_W4), .val (.int (32 : Int32)), .val (.int (4 : Int32)), .val (.int (67 : Int32)), .unset, .unset, .unset, .unset, .unset, .unset, .unset, .unset, .unset]) rfl k) ?_
        show Own.Fin p e below (T34.setTop (mkF m 98 #[.val (.long q1), .second, .val (.long q2), .second, .val (.long q3), .second, .val (.long q4), .second, .val (.int p5), .val (.int p6), .val (.int (p5 &&& (7 : Int32))), .val (.ref aN32_W4), .val (.int (32 : Int32)), .val (.int (4 : Int32)), .val (.int (67 : Int32)), .unset, .unset, .unset, .unset, .unset, .unset, .unset, .unset, .unset] [])) _
        refine Own.go (fun t k => XS.iconst X34.here hx rfl (hb hby at_98) k) ?_
        show Own.Fin p e below (T34.setTop (mkF m 99 #[.val (.long q1), .second, .val (.long q2), .second, .val (.long q3), .second, .val (.long q4), .second, .val (.int p5), .val (.int p6), .val (.int (p5 &&& (7 : Int32))), .val (.ref aN32_W4), .val (.int (32 : Int32)), .val (.int (4 : Int32)), .val (.int (67 : Int32)), .unset, .unset, .unset, .unset, .unset, .unset, .unset, .unset, .unset] [(.int (4 : Int32))])) _
        refine Own.go (fun t k => XS.istore X34.here hx rfl (hb hby at_99) rfl (l' := #[.val (.long q1), .second, .val (.long q2), .second, .val (.long q3), .second, .val (.long q4), .second, .val (.int p5), .val (.int p6), .val (.int (p5 &&& (7 : Int32))), .val (.ref aN32_W4), .val (.int (32 : Int32)), .val (.int (4 : Int32)), .val (.int (67 : Int32)), .val (.int (4 : Int32)), .unset, .unset, .unset, .unset, .unset, .unset, .unset, .unset]) rfl k) ?_
        show Own.Fin p e below (T34.setTop (mkF m 101 #[.val (.long q1), .second, .val (.long q2), .second, .val (.long q3), .second, .val (.long q4), .second, .val (.int p5), .val (.int p6), .val (.int (p5 &&& (7 : Int32))), .val (.ref aN32_W4), .val (.int (32 : Int32)), .val (.int (4 : Int32)), .val (.int (67 : Int32)), .val (.int (4 : Int32)), .unset, .unset, .unset, .unset, .unset, .unset, .unset, .unset] [])) _
        refine Own.go (fun t k => XS.bipush X34.here hx rfl (hb hby at_101) k) ?_
        show Own.Fin p e below (T34.setTop (mkF m 103 #[.val (.long q1), .second, .val (.long q2), .second, .val (.long q3), .second, .val (.long q4), .second, .val (.int p5), .val (.int p6), .val (.int (p5 &&& (7 : Int32))), .val (.ref aN32_W4), .val (.int (32 : Int32)), .val (.int (4 : Int32)), .val (.int (67 : Int32)), .val (.int (4 : Int32)), .unset, .unset, .unset, .unset, .unset, .unset, .unset, .unset] [(.int (64 : Int32))])) _
        refine Own.go (fun t k => XS.istore X34.here hx rfl (hb hby at_103) rfl (l' := #[.val (.long q1), .second, .val (.long q2), .second, .val (.long q3), .second, .val (.long q4), .second, .val (.int p5), .val (.int p6), .val (.int (p5 &&& (7 : Int32))), .val (.ref aN32_W4), .val (.int (32 : Int32)), .val (.int (4 : Int32)), .val (.int (67 : Int32)), .val (.int (4 : Int32)), .val (.int (64 : Int32)), .unset, .unset, .unset, .unset, .unset, .unset, .unset]) rfl k) ?_
        show Own.Fin p e below (T34.setTop (mkF m 105 #[.val (.long q1), .second, .val (.long q2), .second, .val (.long q3), .second, .val (.long q4), .second, .val (.int p5), .val (.int p6), .val (.int (p5 &&& (7 : Int32))), .val (.ref aN32_W4), .val (.int (32 : Int32)), .val (.int (4 : Int32)), .val (.int (67 : Int32)), .val (.int (4 : Int32)), .val (.int (64 : Int32)), .unset, .unset, .unset, .unset, .unset, .unset, .unset] [])) _
        refine Own.go (fun t k => XS.goto X34.here hx rfl (pc0 := 105) (pc' := 266) rfl (hb hby at_105) (by decide) (by decide) k) ?_
        show Own.Fin p e below (T34.setTop (mkF m 266 #[.val (.long q1), .second, .val (.long q2), .second, .val (.long q3), .second, .val (.long q4), .second, .val (.int p5), .val (.int p6), .val (.int (p5 &&& (7 : Int32))), .val (.ref aN32_W4), .val (.int (32 : Int32)), .val (.int (4 : Int32)), .val (.int (67 : Int32)), .val (.int (4 : Int32)), .val (.int (64 : Int32)), .unset, .unset, .unset, .unset, .unset, .unset, .unset] [])) _
        exact join _ X34 e34 aN32_W4 (4 : Int32) (32 : Int32) (67 : Int32) (4 : Int32) 4 2 32 64 67 (by decide) E_aN32_W4 F_w_aN32_W4 F_n_aN32_W4 F_p_aN32_W4 F_ls_aN32_W4
      · skip
        refine Own.go (fun t k => XS.icmpYes X0.here hx rfl (pc0 := 79) (pc' := 108) rfl (hb hby at_79) rfl (feq hc79_32).2 (by decide) (by decide) k) ?_
        show Own.Fin p e below (s₁.setTop (mkF m 108 #[.val (.long q1), .second, .val (.long q2), .second, .val (.long q3), .second, .val (.long q4), .second, .val (.int p5), .val (.int p6), .val (.int (p5 &&& (7 : Int32))), .unset, .unset, .unset, .unset, .unset, .unset, .unset, .unset, .unset, .unset, .unset, .unset, .unset] [])) _
        refine Own.go (fun t k => XS.iload X0.here hx rfl (hb hby at_108) rfl k) ?_
        show Own.Fin p e below (s₁.setTop (mkF m 110 #[.val (.long q1), .second, .val (.long q2), .second, .val (.long q3), .second, .val (.long q4), .second, .val (.int p5), .val (.int p6), .val (.int (p5 &&& (7 : Int32))), .unset, .unset, .unset, .unset, .unset, .unset, .unset, .unset, .unset, .unset, .unset, .unset, .unset] [(.int (p5 &&& (7 : Int32)))])) _
        refine Own.go (fun t k => XS.iconst X0.here hx rfl (hb hby at_110) k) ?_
        show Own.Fin p e below (s₁.setTop (mkF m 111 #[.val (.long q1), .second, .val (.long q2), .second, .val (.long q3), .second, .val (.long q4), .second, .val (.int p5), .val (.int p6), .val (.int (p5 &&& (7 : Int32))), .unset, .unset, .unset, .unset, .unset, .unset, .unset, .unset, .unset, .unset, .unset, .unset, .unset] [(.int (3 : Int32)), (.int (p5 &&& (7 : Int32)))])) _
        by_cases hc111_34 : (p5 &&& (7 : Int32)) = (3 : Int32)
        · skip
          refine Own.go (fun t k => XS.icmpNo X0.here hx rfl (hb hby at_111) rfl (teq hc111_34).2 k) ?_
          show Own.Fin p e below (s₁.setTop (mkF m 114 #[.val (.long q1), .second, .val (.long q2), .second, .val (.long q3), .second, .val (.long q4), .second, .val (.int p5), .val (.int p6), .val (.int (p5 &&& (7 : Int32))), .unset, .unset, .unset, .unset, .unset, .unset, .unset, .unset, .unset, .unset, .unset, .unset, .unset] [])) _
          obtain ⟨T36, X36, e36, st36⟩ := getS2 X0 hx hZ hown (host := "") (Or.inl (hw _ (List.mem_of_getElem? (i := 0) rfl))) Via.refl e0 (S_aN32_W8.ext O0.2) (g := (mkF m 114 #[.val (.long q1), .second, .val (.long q2), .second, .val (.long q3), .second, .val (.long q4), .second, .val (.int p5), .val (.int p6), .val (.int (p5 &&& (7 : Int32))), .unset, .unset, .unset, .unset, .unset, .unset, .unset, .unset, .unset, .unset, .unset, .unset, .unset] [])) rfl (hb hby at_114)
          refine Own.go st36 ?_
          show Own.Fin p e below (T36.setTop (mkF m 117 #[.val (.long q1), .second, .val (.long q2), .second, .val (.long q3), .second, .val (.long q4), .second, .val (.int p5), .val (.int p6), .val (.int (p5 &&& (7 : Int32))), .unset, .unset, .unset, .unset, .unset, .unset, .unset, .unset, .unset, .unset, .unset, .unset, .unset] [(.ref aN32_W8)])) _
          refine Own.go (fun t k => XS.astore X36.here hx rfl (hb hby at_117) rfl rfl (l' := #[.val (.long q1), .second, .val (.long q2), .second, .val (.long q3), .second, .val (.long q4), .second, .val (.int p5), .val (.int p6), .val (.int (p5 &&& (7 : Int32))), .val (.ref aN32_W8), .unset, .unset, .unset, .unset, .unset, .unset, .unset, .unset, .unset, .unset, .unset, .unset]) rfl k) ?_
          show Own.Fin p e below (T36.setTop (mkF m 119 #[.val (.long q1), .second, .val (.long q2), .second, .val (.long q3), .second, .val (.long q4), .second, .val (.int p5), .val (.int p6), .val (.int (p5 &&& (7 : Int32))), .val (.ref aN32_W8), .unset, .unset, .unset, .unset, .unset, .unset, .unset, .unset, .unset, .unset, .unset, .unset] [])) _
          refine Own.go (fun t k => XS.bipush X36.here hx rfl (hb hby at_119) k) ?_
          show Own.Fin p e below (T36.setTop (mkF m 121 #[.val (.long q1), .second, .val (.long q2), .second, .val (.long q3), .second, .val (.long q4), .second, .val (.int p5), .val (.int p6), .val (.int (p5 &&& (7 : Int32))), .val (.ref aN32_W8), .unset, .unset, .unset, .unset, .unset, .unset, .unset, .unset, .unset, .unset, .unset, .unset] [(.int (32 : Int32))])) _
          refine Own.go (fun t k => XS.istore X36.here hx rfl (hb hby at_121) rfl (l' := #[.val (.long q1), .second, .val (.long q2), .second, .val (.long q3), .second, .val (.long q4), .second, .val (.int p5), .val (.int p6), .val (.int (p5 &&& (7 : Int32))), .val (.ref aN32_W8), .val (.int (32 : Int32)), .unset, .unset, .unset, .unset, .unset, .unset, .unset, .unset, .unset, .unset, .unset]) rfl k) ?_
          show Own.Fin p e below (T36.setTop (mkF m 123 #[.val (.long q1), .second, .val (.long q2), .second, .val (.long q3), .second, .val (.long q4), .second, .val (.int p5), .val (.int p6), .val (.int (p5 &&& (7 : Int32))), .val (.ref aN32_W8), .val (.int (32 : Int32)), .unset, .unset, .unset, .unset, .unset, .unset, .unset, .unset, .unset, .unset, .unset] [])) _
          refine Own.go (fun t k => XS.bipush X36.here hx rfl (hb hby at_123) k) ?_
          show Own.Fin p e below (T36.setTop (mkF m 125 #[.val (.long q1), .second, .val (.long q2), .second, .val (.long q3), .second, .val (.long q4), .second, .val (.int p5), .val (.int p6), .val (.int (p5 &&& (7 : Int32))), .val (.ref aN32_W8), .val (.int (32 : Int32)), .unset, .unset, .unset, .unset, .unset, .unset, .unset, .unset, .unset, .unset, .unset] [(.int (8 : Int32))])) _
          refine Own.go (fun t k => XS.istore X36.here hx rfl (hb hby at_125) rfl (l' := #[.val (.long q1), .second, .val (.long q2), .second, .val (.long q3), .second, .val (.long q4), .second, .val (.int p5), .val (.int p6), .val (.int (p5 &&& (7 : Int32))), .val (.ref aN32_W8), .val (.int (32 : Int32)), .val (.int (8 : Int32)), .unset, .unset, .unset, .unset, .unset, .unset, .unset, .unset, .unset, .unset]) rfl k) ?_
          show Own.Fin p e below (T36.setTop (mkF m 127 #[.val (.long q1), .second, .val (.long q2), .second, .val (.long q3), .second, .val (.long q4), .second, .val (.int p5), .val (.int p6), .val (.int (p5 &&& (7 : Int32))), .val (.ref aN32_W8), .val (.int (32 : Int32)), .val (.int (8 : Int32)), .unset, .unset, .unset, .unset, .unset, .unset, .unset, .unset, .unset, .unset] [])) _
          refine Own.go (fun t k => XS.bipush X36.here hx rfl (hb hby at_127) k) ?_
          show Own.Fin p e below (T36.setTop (mkF m 129 #[.val (.long q1), .second, .val (.long q2), .second, .val (.long q3), .second, .val (.long q4), .second, .val (.int p5), .val (.int p6), .val (.int (p5 &&& (7 : Int32))), .val (.ref aN32_W8), .val (.int (32 : Int32)), .val (.int (8 : Int32)), .unset, .unset, .unset, .unset, .unset, .unset, .unset, .unset, .unset, .unset] [(.int (34 : Int32))])) _
          refine Own.go (fun t k => XS.istore X36.here hx rfl (hb hby at_129) rfl (l' := #[.val (.long q1), .second, .val (.long q2), .second, .val (.long q3), .second, .val (.long q4), .second, .val (.int p5), .val (.int p6), .val (.int (p5 &&& (7 : Int32))), .val (.ref aN32_W8), .val (.int (32 : Int32)), .val (.int (8 : Int32)), .val (.int (34 : Int32)), .unset, .unset, .unset, .unset, .unset, .unset, .unset, .unset, .unset]) rfl k) ?_
          show Own.Fin p e below (T36.setTop (mkF m 131 #[.val (.long q1), .second, .val (.long q2), .second, .val (.long q3), .second, .val (.long q4), .second, .val (.int p5), .val (.int p6), .val (.int (p5 &&& (7 : Int32))), .val (.ref aN32_W8), .val (.int (32 : Int32)), .val (.int (8 : Int32)), .val (.int (34 : Int32)), .unset, .unset, .unset, .unset, .unset, .unset, .unset, .unset, .unset] [])) _
          refine Own.go (fun t k => XS.iconst X36.here hx rfl (hb hby at_131) k) ?_
          show Own.Fin p e below (T36.setTop (mkF m 132 #[.val (.long q1), .second, .val (.long q2), .second, .val (.long q3), .second, .val (.long q4), .second, .val (.int p5), .val (.int p6), .val (.int (p5 &&& (7 : Int32))), .val (.ref aN32_W8), .val (.int (32 : Int32)), .val (.int (8 : Int32)), .val (.int (34 : Int32)), .unset, .unset, .unset, .unset, .unset, .unset, .unset, .unset, .unset] [(.int (0 : Int32))])) _
          refine Own.go (fun t k => XS.istore X36.here hx rfl (hb hby at_132) rfl (l' := #[.val (.long q1), .second, .val (.long q2), .second, .val (.long q3), .second, .val (.long q4), .second, .val (.int p5), .val (.int p6), .val (.int (p5 &&& (7 : Int32))), .val (.ref aN32_W8), .val (.int (32 : Int32)), .val (.int (8 : Int32)), .val (.int (34 : Int32)), .val (.int (0 : Int32)), .unset, .unset, .unset, .unset, .unset, .unset, .unset, .unset]) rfl k) ?_
          show Own.Fin p e below (T36.setTop (mkF m 134 #[.val (.long q1), .second, .val (.long q2), .second, .val (.long q3), .second, .val (.long q4), .second, .val (.int p5), .val (.int p6), .val (.int (p5 &&& (7 : Int32))), .val (.ref aN32_W8), .val (.int (32 : Int32)), .val (.int (8 : Int32)), .val (.int (34 : Int32)), .val (.int (0 : Int32)), .unset, .unset, .unset, .unset, .unset, .unset, .unset, .unset] [])) _
          refine Own.go (fun t k => XS.bipush X36.here hx rfl (hb hby at_134) k) ?_
          show Own.Fin p e below (T36.setTop (mkF m 136 #[.val (.long q1), .second, .val (.long q2), .second, .val (.long q3), .second, .val (.long q4), .second, .val (.int p5), .val (.int p6), .val (.int (p5 &&& (7 : Int32))), .val (.ref aN32_W8), .val (.int (32 : Int32)), .val (.int (8 : Int32)), .val (.int (34 : Int32)), .val (.int (0 : Int32)), .unset, .unset, .unset, .unset, .unset, .unset, .unset, .unset] [(.int (32 : Int32))])) _
          refine Own.go (fun t k => XS.istore X36.here hx rfl (hb hby at_136) rfl (l' := #[.val (.long q1), .second, .val (.long q2), .second, .val (.long q3), .second, .val (.long q4), .second, .val (.int p5), .val (.int p6), .val (.int (p5 &&& (7 : Int32))), .val (.ref aN32_W8), .val (.int (32 : Int32)), .val (.int (8 : Int32)), .val (.int (34 : Int32)), .val (.int (0 : Int32)), .val (.int (32 : Int32)), .unset, .unset, .unset, .unset, .unset, .unset, .unset]) rfl k) ?_
          show Own.Fin p e below (T36.setTop (mkF m 138 #[.val (.long q1), .second, .val (.long q2), .second, .val (.long q3), .second, .val (.long q4), .second, .val (.int p5), .val (.int p6), .val (.int (p5 &&& (7 : Int32))), .val (.ref aN32_W8), .val (.int (32 : Int32)), .val (.int (8 : Int32)), .val (.int (34 : Int32)), .val (.int (0 : Int32)), .val (.int (32 : Int32)), .unset, .unset, .unset, .unset, .unset, .unset, .unset] [])) _
          refine Own.go (fun t k => XS.goto X36.here hx rfl (pc0 := 138) (pc' := 266) rfl (hb hby at_138) (by decide) (by decide) k) ?_
          show Own.Fin p e below (T36.setTop (mkF m 266 #[.val (.long q1), .second, .val (.long q2), .second, .val (.long q3), .second, .val (.long q4), .second, .val (.int p5), .val (.int p6), .val (.int (p5 &&& (7 : Int32))), .val (.ref aN32_W8), .val (.int (32 : Int32)), .val (.int (8 : Int32)), .val (.int (34 : Int32)), .val (.int (0 : Int32)), .val (.int (32 : Int32)), .unset, .unset, .unset, .unset, .unset, .unset, .unset] [])) _
          exact join _ X36 e36 aN32_W8 (8 : Int32) (32 : Int32) (34 : Int32) (0 : Int32) 8 1 32 32 34 (by decide) E_aN32_W8 F_w_aN32_W8 F_n_aN32_W8 F_p_aN32_W8 F_ls_aN32_W8
        · skip
          refine Own.go (fun t k => XS.icmpYes X0.here hx rfl (pc0 := 111) (pc' := 141) rfl (hb hby at_111) rfl (feq hc111_34).2 (by decide) (by decide) k) ?_
          show Own.Fin p e below (s₁.setTop (mkF m 141 #[.val (.long q1), .second, .val (.long q2), .second, .val (.long q3), .second, .val (.long q4), .second, .val (.int p5), .val (.int p6), .val (.int (p5 &&& (7 : Int32))), .unset, .unset, .unset, .unset, .unset, .unset, .unset, .unset, .unset, .unset, .unset, .unset, .unset] [])) _
          refine Own.go (fun t k => XS.iload X0.here hx rfl (hb hby at_141) rfl k) ?_
          show Own.Fin p e below (s₁.setTop (mkF m 143 #[.val (.long q1), .second, .val (.long q2), .second, .val (.long q3), .second, .val (.long q4), .second, .val (.int p5), .val (.int p6), .val (.int (p5 &&& (7 : Int32))), .unset, .unset, .unset, .unset, .unset, .unset, .unset, .unset, .unset, .unset, .unset, .unset, .unset] [(.int (p5 &&& (7 : Int32)))])) _
          refine Own.go (fun t k => XS.iconst X0.here hx rfl (hb hby at_143) k) ?_
          show Own.Fin p e below (s₁.setTop (mkF m 144 #[.val (.long q1), .second, .val (.long q2), .second, .val (.long q3), .second, .val (.long q4), .second, .val (.int p5), .val (.int p6), .val (.int (p5 &&& (7 : Int32))), .unset, .unset, .unset, .unset, .unset, .unset, .unset, .unset, .unset, .unset, .unset, .unset, .unset] [(.int (4 : Int32)), (.int (p5 &&& (7 : Int32)))])) _
          by_cases hc144_36 : (p5 &&& (7 : Int32)) = (4 : Int32)
          · skip
            refine Own.go (fun t k => XS.icmpNo X0.here hx rfl (hb hby at_144) rfl (teq hc144_36).2 k) ?_
            show Own.Fin p e below (s₁.setTop (mkF m 147 #[.val (.long q1), .second, .val (.long q2), .second, .val (.long q3), .second, .val (.long q4), .second, .val (.int p5), .val (.int p6), .val (.int (p5 &&& (7 : Int32))), .unset, .unset, .unset, .unset, .unset, .unset, .unset, .unset, .unset, .unset, .unset, .unset, .unset] [])) _
            obtain ⟨T38, X38, e38, st38⟩ := getS2 X0 hx hZ hown (host := "") (Or.inl (hw _ (List.mem_of_getElem? (i := 49) rfl))) Via.refl e0 (S_aN24_W1.ext O0.2) (g := (mkF m 147 #[.val (.long q1), .second, .val (.long q2), .second, .val (.long q3), .second, .val (.long q4), .second, .val (.int p5), .val (.int p6), .val (.int (p5 &&& (7 : Int32))), .unset, .unset, .unset, .unset, .unset, .unset, .unset, .unset, .unset, .unset, .unset, .unset, .unset] [])) rfl (hb hby at_147)
            refine Own.go st38 ?_
            show Own.Fin p e below (T38.setTop (mkF m 150 #[.val (.long q1), .second, .val (.long q2), .second, .val (.long q3), .second, .val (.long q4), .second, .val (.int p5), .val (.int p6), .val (.int (p5 &&& (7 : Int32))), .unset, .unset, .unset, .unset, .unset, .unset, .unset, .unset, .unset, .unset, .unset, .unset, .unset] [(.ref aN24_W1)])) _
            refine Own.go (fun t k => XS.astore X38.here hx rfl (hb hby at_150) rfl rfl (l' := #[.val (.long q1), .second, .val (.long q2), .second, .val (.long q3), .second, .val (.long q4), .second, .val (.int p5), .val (.int p6), .val (.int (p5 &&& (7 : Int32))), .val (.ref aN24_W1), .unset, .unset, .unset, .unset, .unset, .unset, .unset, .unset, .unset, .unset, .unset, .unset]) rfl k) ?_
            show Own.Fin p e below (T38.setTop (mkF m 152 #[.val (.long q1), .second, .val (.long q2), .second, .val (.long q3), .second, .val (.long q4), .second, .val (.int p5), .val (.int p6), .val (.int (p5 &&& (7 : Int32))), .val (.ref aN24_W1), .unset, .unset, .unset, .unset, .unset, .unset, .unset, .unset, .unset, .unset, .unset, .unset] [])) _
            refine Own.go (fun t k => XS.bipush X38.here hx rfl (hb hby at_152) k) ?_
            show Own.Fin p e below (T38.setTop (mkF m 154 #[.val (.long q1), .second, .val (.long q2), .second, .val (.long q3), .second, .val (.long q4), .second, .val (.int p5), .val (.int p6), .val (.int (p5 &&& (7 : Int32))), .val (.ref aN24_W1), .unset, .unset, .unset, .unset, .unset, .unset, .unset, .unset, .unset, .unset, .unset, .unset] [(.int (24 : Int32))])) _
            refine Own.go (fun t k => XS.istore X38.here hx rfl (hb hby at_154) rfl (l' := #[.val (.long q1), .second, .val (.long q2), .second, .val (.long q3), .second, .val (.long q4), .second, .val (.int p5), .val (.int p6), .val (.int (p5 &&& (7 : Int32))), .val (.ref aN24_W1), .val (.int (24 : Int32)), .unset, .unset, .unset, .unset, .unset, .unset, .unset, .unset, .unset, .unset, .unset]) rfl k) ?_
            show Own.Fin p e below (T38.setTop (mkF m 156 #[.val (.long q1), .second, .val (.long q2), .second, .val (.long q3), .second, .val (.long q4), .second, .val (.int p5), .val (.int p6), .val (.int (p5 &&& (7 : Int32))), .val (.ref aN24_W1), .val (.int (24 : Int32)), .unset, .unset, .unset, .unset, .unset, .unset, .unset, .unset, .unset, .unset, .unset] [])) _
            refine Own.go (fun t k => XS.iconst X38.here hx rfl (hb hby at_156) k) ?_
            show Own.Fin p e below (T38.setTop (mkF m 157 #[.val (.long q1), .second, .val (.long q2), .second, .val (.long q3), .second, .val (.long q4), .second, .val (.int p5), .val (.int p6), .val (.int (p5 &&& (7 : Int32))), .val (.ref aN24_W1), .val (.int (24 : Int32)), .unset, .unset, .unset, .unset, .unset, .unset, .unset, .unset, .unset, .unset, .unset] [(.int (1 : Int32))])) _
            refine Own.go (fun t k => XS.istore X38.here hx rfl (hb hby at_157) rfl (l' := #[.val (.long q1), .second, .val (.long q2), .second, .val (.long q3), .second, .val (.long q4), .second, .val (.int p5), .val (.int p6), .val (.int (p5 &&& (7 : Int32))), .val (.ref aN24_W1), .val (.int (24 : Int32)), .val (.int (1 : Int32)), .unset, .unset, .unset, .unset, .unset, .unset, .unset, .unset, .unset, .unset]) rfl k) ?_
            show Own.Fin p e below (T38.setTop (mkF m 159 #[.val (.long q1), .second, .val (.long q2), .second, .val (.long q3), .second, .val (.long q4), .second, .val (.int p5), .val (.int p6), .val (.int (p5 &&& (7 : Int32))), .val (.ref aN24_W1), .val (.int (24 : Int32)), .val (.int (1 : Int32)), .unset, .unset, .unset, .unset, .unset, .unset, .unset, .unset, .unset, .unset] [])) _
            refine Own.go (fun t k => XS.sipush X38.here hx rfl (hb hby at_159) k) ?_
            show Own.Fin p e below (T38.setTop (mkF m 162 #[.val (.long q1), .second, .val (.long q2), .second, .val (.long q3), .second, .val (.long q4), .second, .val (.int p5), .val (.int p6), .val (.int (p5 &&& (7 : Int32))), .val (.ref aN24_W1), .val (.int (24 : Int32)), .val (.int (1 : Int32)), .unset, .unset, .unset, .unset, .unset, .unset, .unset, .unset, .unset, .unset] [(.int (200 : Int32))])) _
            refine Own.go (fun t k => XS.istore X38.here hx rfl (hb hby at_162) rfl (l' := #[.val (.long q1), .second, .val (.long q2), .second, .val (.long q3), .second, .val (.long q4), .second, .val (.int p5), .val (.int p6), .val (.int (p5 &&& (7 : Int32))), .val (.ref aN24_W1), .val (.int (24 : Int32)), .val (.int (1 : Int32)), .val (.int (200 : Int32)), .unset, .unset, .unset, .unset, .unset, .unset, .unset, .unset, .unset]) rfl k) ?_
            show Own.Fin p e below (T38.setTop (mkF m 164 #[.val (.long q1), .second, .val (.long q2), .second, .val (.long q3), .second, .val (.long q4), .second, .val (.int p5), .val (.int p6), .val (.int (p5 &&& (7 : Int32))), .val (.ref aN24_W1), .val (.int (24 : Int32)), .val (.int (1 : Int32)), .val (.int (200 : Int32)), .unset, .unset, .unset, .unset, .unset, .unset, .unset, .unset, .unset] [])) _
            refine Own.go (fun t k => XS.bipush X38.here hx rfl (hb hby at_164) k) ?_
            show Own.Fin p e below (T38.setTop (mkF m 166 #[.val (.long q1), .second, .val (.long q2), .second, .val (.long q3), .second, .val (.long q4), .second, .val (.int p5), .val (.int p6), .val (.int (p5 &&& (7 : Int32))), .val (.ref aN24_W1), .val (.int (24 : Int32)), .val (.int (1 : Int32)), .val (.int (200 : Int32)), .unset, .unset, .unset, .unset, .unset, .unset, .unset, .unset, .unset] [(.int (8 : Int32))])) _
            refine Own.go (fun t k => XS.istore X38.here hx rfl (hb hby at_166) rfl (l' := #[.val (.long q1), .second, .val (.long q2), .second, .val (.long q3), .second, .val (.long q4), .second, .val (.int p5), .val (.int p6), .val (.int (p5 &&& (7 : Int32))), .val (.ref aN24_W1), .val (.int (24 : Int32)), .val (.int (1 : Int32)), .val (.int (200 : Int32)), .val (.int (8 : Int32)), .unset, .unset, .unset, .unset, .unset, .unset, .unset, .unset]) rfl k) ?_
            show Own.Fin p e below (T38.setTop (mkF m 168 #[.val (.long q1), .second, .val (.long q2), .second, .val (.long q3), .second, .val (.long q4), .second, .val (.int p5), .val (.int p6), .val (.int (p5 &&& (7 : Int32))), .val (.ref aN24_W1), .val (.int (24 : Int32)), .val (.int (1 : Int32)), .val (.int (200 : Int32)), .val (.int (8 : Int32)), .unset, .unset, .unset, .unset, .unset, .unset, .unset, .unset] [])) _
            refine Own.go (fun t k => XS.sipush X38.here hx rfl (hb hby at_168) k) ?_
            show Own.Fin p e below (T38.setTop (mkF m 171 #[.val (.long q1), .second, .val (.long q2), .second, .val (.long q3), .second, .val (.long q4), .second, .val (.int p5), .val (.int p6), .val (.int (p5 &&& (7 : Int32))), .val (.ref aN24_W1), .val (.int (24 : Int32)), .val (.int (1 : Int32)), .val (.int (200 : Int32)), .val (.int (8 : Int32)), .unset, .unset, .unset, .unset, .unset, .unset, .unset, .unset] [(.int (192 : Int32))])) _
            refine Own.go (fun t k => XS.istore X38.here hx rfl (hb hby at_171) rfl (l' := #[.val (.long q1), .second, .val (.long q2), .second, .val (.long q3), .second, .val (.long q4), .second, .val (.int p5), .val (.int p6), .val (.int (p5 &&& (7 : Int32))), .val (.ref aN24_W1), .val (.int (24 : Int32)), .val (.int (1 : Int32)), .val (.int (200 : Int32)), .val (.int (8 : Int32)), .val (.int (192 : Int32)), .unset, .unset, .unset, .unset, .unset, .unset, .unset]) rfl k) ?_
            show Own.Fin p e below (T38.setTop (mkF m 173 #[.val (.long q1), .second, .val (.long q2), .second, .val (.long q3), .second, .val (.long q4), .second, .val (.int p5), .val (.int p6), .val (.int (p5 &&& (7 : Int32))), .val (.ref aN24_W1), .val (.int (24 : Int32)), .val (.int (1 : Int32)), .val (.int (200 : Int32)), .val (.int (8 : Int32)), .val (.int (192 : Int32)), .unset, .unset, .unset, .unset, .unset, .unset, .unset] [])) _
            refine Own.go (fun t k => XS.goto X38.here hx rfl (pc0 := 173) (pc' := 266) rfl (hb hby at_173) (by decide) (by decide) k) ?_
            show Own.Fin p e below (T38.setTop (mkF m 266 #[.val (.long q1), .second, .val (.long q2), .second, .val (.long q3), .second, .val (.long q4), .second, .val (.int p5), .val (.int p6), .val (.int (p5 &&& (7 : Int32))), .val (.ref aN24_W1), .val (.int (24 : Int32)), .val (.int (1 : Int32)), .val (.int (200 : Int32)), .val (.int (8 : Int32)), .val (.int (192 : Int32)), .unset, .unset, .unset, .unset, .unset, .unset, .unset] [])) _
            exact join _ X38 e38 aN24_W1 (1 : Int32) (24 : Int32) (200 : Int32) (8 : Int32) 1 8 24 192 200 (by decide) E_aN24_W1 F_w_aN24_W1 F_n_aN24_W1 F_p_aN24_W1 F_ls_aN24_W1
          · skip
            refine Own.go (fun t k => XS.icmpYes X0.here hx rfl (pc0 := 144) (pc' := 176) rfl (hb hby at_144) rfl (feq hc144_36).2 (by decide) (by decide) k) ?_
            show Own.Fin p e below (s₁.setTop (mkF m 176 #[.val (.long q1), .second, .val (.long q2), .second, .val (.long q3), .second, .val (.long q4), .second, .val (.int p5), .val (.int p6), .val (.int (p5 &&& (7 : Int32))), .unset, .unset, .unset, .unset, .unset, .unset, .unset, .unset, .unset, .unset, .unset, .unset, .unset] [])) _
            refine Own.go (fun t k => XS.iload X0.here hx rfl (hb hby at_176) rfl k) ?_
            show Own.Fin p e below (s₁.setTop (mkF m 178 #[.val (.long q1), .second, .val (.long q2), .second, .val (.long q3), .second, .val (.long q4), .second, .val (.int p5), .val (.int p6), .val (.int (p5 &&& (7 : Int32))), .unset, .unset, .unset, .unset, .unset, .unset, .unset, .unset, .unset, .unset, .unset, .unset, .unset] [(.int (p5 &&& (7 : Int32)))])) _
            refine Own.go (fun t k => XS.iconst X0.here hx rfl (hb hby at_178) k) ?_
            show Own.Fin p e below (s₁.setTop (mkF m 179 #[.val (.long q1), .second, .val (.long q2), .second, .val (.long q3), .second, .val (.long q4), .second, .val (.int p5), .val (.int p6), .val (.int (p5 &&& (7 : Int32))), .unset, .unset, .unset, .unset, .unset, .unset, .unset, .unset, .unset, .unset, .unset, .unset, .unset] [(.int (5 : Int32)), (.int (p5 &&& (7 : Int32)))])) _
            by_cases hc179_38 : (p5 &&& (7 : Int32)) = (5 : Int32)
            · skip
              refine Own.go (fun t k => XS.icmpNo X0.here hx rfl (hb hby at_179) rfl (teq hc179_38).2 k) ?_
              show Own.Fin p e below (s₁.setTop (mkF m 182 #[.val (.long q1), .second, .val (.long q2), .second, .val (.long q3), .second, .val (.long q4), .second, .val (.int p5), .val (.int p6), .val (.int (p5 &&& (7 : Int32))), .unset, .unset, .unset, .unset, .unset, .unset, .unset, .unset, .unset, .unset, .unset, .unset, .unset] [])) _
              obtain ⟨T40, X40, e40, st40⟩ := getS2 X0 hx hZ hown (host := "") (Or.inl (hw _ (List.mem_of_getElem? (i := 36) rfl))) Via.refl e0 (S_aN24_W2.ext O0.2) (g := (mkF m 182 #[.val (.long q1), .second, .val (.long q2), .second, .val (.long q3), .second, .val (.long q4), .second, .val (.int p5), .val (.int p6), .val (.int (p5 &&& (7 : Int32))), .unset, .unset, .unset, .unset, .unset, .unset, .unset, .unset, .unset, .unset, .unset, .unset, .unset] [])) rfl (hb hby at_182)
              refine Own.go st40 ?_
              show Own.Fin p e below (T40.setTop (mkF m 185 #[.val (.long q1), .second, .val (.long q2), .second, .val (.long q3), .second, .val (.long q4), .second, .val (.int p5), .val (.int p6), .val (.int (p5 &&& (7 : Int32))), .unset, .unset, .unset, .unset, .unset, .unset, .unset, .unset, .unset, .unset, .unset, .unset, .unset] [(.ref aN24_W2)])) _
              refine Own.go (fun t k => XS.astore X40.here hx rfl (hb hby at_185) rfl rfl (l' := #[.val (.long q1), .second, .val (.long q2), .second, .val (.long q3), .second, .val (.long q4), .second, .val (.int p5), .val (.int p6), .val (.int (p5 &&& (7 : Int32))), .val (.ref aN24_W2), .unset, .unset, .unset, .unset, .unset, .unset, .unset, .unset, .unset, .unset, .unset, .unset]) rfl k) ?_
              show Own.Fin p e below (T40.setTop (mkF m 187 #[.val (.long q1), .second, .val (.long q2), .second, .val (.long q3), .second, .val (.long q4), .second, .val (.int p5), .val (.int p6), .val (.int (p5 &&& (7 : Int32))), .val (.ref aN24_W2), .unset, .unset, .unset, .unset, .unset, .unset, .unset, .unset, .unset, .unset, .unset, .unset] [])) _
              refine Own.go (fun t k => XS.bipush X40.here hx rfl (hb hby at_187) k) ?_
              show Own.Fin p e below (T40.setTop (mkF m 189 #[.val (.long q1), .second, .val (.long q2), .second, .val (.long q3), .second, .val (.long q4), .second, .val (.int p5), .val (.int p6), .val (.int (p5 &&& (7 : Int32))), .val (.ref aN24_W2), .unset, .unset, .unset, .unset, .unset, .unset, .unset, .unset, .unset, .unset, .unset, .unset] [(.int (24 : Int32))])) _
              refine Own.go (fun t k => XS.istore X40.here hx rfl (hb hby at_189) rfl (l' := #[.val (.long q1), .second, .val (.long q2), .second, .val (.long q3), .second, .val (.long q4), .second, .val (.int p5), .val (.int p6), .val (.int (p5 &&& (7 : Int32))), .val (.ref aN24_W2), .val (.int (24 : Int32)), .unset, .unset, .unset, .unset, .unset, .unset, .unset, .unset, .unset, .unset, .unset]) rfl k) ?_
              show Own.Fin p e below (T40.setTop (mkF m 191 #[.val (.long q1), .second, .val (.long q2), .second, .val (.long q3), .second, .val (.long q4), .second, .val (.int p5), .val (.int p6), .val (.int (p5 &&& (7 : Int32))), .val (.ref aN24_W2), .val (.int (24 : Int32)), .unset, .unset, .unset, .unset, .unset, .unset, .unset, .unset, .unset, .unset, .unset] [])) _
              refine Own.go (fun t k => XS.iconst X40.here hx rfl (hb hby at_191) k) ?_
              show Own.Fin p e below (T40.setTop (mkF m 192 #[.val (.long q1), .second, .val (.long q2), .second, .val (.long q3), .second, .val (.long q4), .second, .val (.int p5), .val (.int p6), .val (.int (p5 &&& (7 : Int32))), .val (.ref aN24_W2), .val (.int (24 : Int32)), .unset, .unset, .unset, .unset, .unset, .unset, .unset, .unset, .unset, .unset, .unset] [(.int (2 : Int32))])) _
              refine Own.go (fun t k => XS.istore X40.here hx rfl (hb hby at_192) rfl (l' := #[.val (.long q1), .second, .val (.long q2), .second, .val (.long q3), .second, .val (.long q4), .second, .val (.int p5), .val (.int p6), .val (.int (p5 &&& (7 : Int32))), .val (.ref aN24_W2), .val (.int (24 : Int32)), .val (.int (2 : Int32)), .unset, .unset, .unset, .unset, .unset, .unset, .unset, .unset, .unset, .unset]) rfl k) ?_
              show Own.Fin p e below (T40.setTop (mkF m 194 #[.val (.long q1), .second, .val (.long q2), .second, .val (.long q3), .second, .val (.long q4), .second, .val (.int p5), .val (.int p6), .val (.int (p5 &&& (7 : Int32))), .val (.ref aN24_W2), .val (.int (24 : Int32)), .val (.int (2 : Int32)), .unset, .unset, .unset, .unset, .unset, .unset, .unset, .unset, .unset, .unset] [])) _
              refine Own.go (fun t k => XS.bipush X40.here hx rfl (hb hby at_194) k) ?_
              show Own.Fin p e below (T40.setTop (mkF m 196 #[.val (.long q1), .second, .val (.long q2), .second, .val (.long q3), .second, .val (.long q4), .second, .val (.int p5), .val (.int p6), .val (.int (p5 &&& (7 : Int32))), .val (.ref aN24_W2), .val (.int (24 : Int32)), .val (.int (2 : Int32)), .unset, .unset, .unset, .unset, .unset, .unset, .unset, .unset, .unset, .unset] [(.int (101 : Int32))])) _
              refine Own.go (fun t k => XS.istore X40.here hx rfl (hb hby at_196) rfl (l' := #[.val (.long q1), .second, .val (.long q2), .second, .val (.long q3), .second, .val (.long q4), .second, .val (.int p5), .val (.int p6), .val (.int (p5 &&& (7 : Int32))), .val (.ref aN24_W2), .val (.int (24 : Int32)), .val (.int (2 : Int32)), .val (.int (101 : Int32)), .unset, .unset, .unset, .unset, .unset, .unset, .unset, .unset, .unset]) rfl k) ?_
              show Own.Fin p e below (T40.setTop (mkF m 198 #[.val (.long q1), .second, .val (.long q2), .second, .val (.long q3), .second, .val (.long q4), .second, .val (.int p5), .val (.int p6), .val (.int (p5 &&& (7 : Int32))), .val (.ref aN24_W2), .val (.int (24 : Int32)), .val (.int (2 : Int32)), .val (.int (101 : Int32)), .unset, .unset, .unset, .unset, .unset, .unset, .unset, .unset, .unset] [])) _
              refine Own.go (fun t k => XS.bipush X40.here hx rfl (hb hby at_198) k) ?_
              show Own.Fin p e below (T40.setTop (mkF m 200 #[.val (.long q1), .second, .val (.long q2), .second, .val (.long q3), .second, .val (.long q4), .second, .val (.int p5), .val (.int p6), .val (.int (p5 &&& (7 : Int32))), .val (.ref aN24_W2), .val (.int (24 : Int32)), .val (.int (2 : Int32)), .val (.int (101 : Int32)), .unset, .unset, .unset, .unset, .unset, .unset, .unset, .unset, .unset] [(.int (6 : Int32))])) _
              refine Own.go (fun t k => XS.istore X40.here hx rfl (hb hby at_200) rfl (l' := #[.val (.long q1), .second, .val (.long q2), .second, .val (.long q3), .second, .val (.long q4), .second, .val (.int p5), .val (.int p6), .val (.int (p5 &&& (7 : Int32))), .val (.ref aN24_W2), .val (.int (24 : Int32)), .val (.int (2 : Int32)), .val (.int (101 : Int32)), .val (.int (6 : Int32)), .unset, .unset, .unset, .unset, .unset, .unset, .unset, .unset]) rfl k) ?_
              show Own.Fin p e below (T40.setTop (mkF m 202 #[.val (.long q1), .second, .val (.long q2), .second, .val (.long q3), .second, .val (.long q4), .second, .val (.int p5), .val (.int p6), .val (.int (p5 &&& (7 : Int32))), .val (.ref aN24_W2), .val (.int (24 : Int32)), .val (.int (2 : Int32)), .val (.int (101 : Int32)), .val (.int (6 : Int32)), .unset, .unset, .unset, .unset, .unset, .unset, .unset, .unset] [])) _
              refine Own.go (fun t k => XS.bipush X40.here hx rfl (hb hby at_202) k) ?_
              show Own.Fin p e below (T40.setTop (mkF m 204 #[.val (.long q1), .second, .val (.long q2), .second, .val (.long q3), .second, .val (.long q4), .second, .val (.int p5), .val (.int p6), .val (.int (p5 &&& (7 : Int32))), .val (.ref aN24_W2), .val (.int (24 : Int32)), .val (.int (2 : Int32)), .val (.int (101 : Int32)), .val (.int (6 : Int32)), .unset, .unset, .unset, .unset, .unset, .unset, .unset, .unset] [(.int (96 : Int32))])) _
              refine Own.go (fun t k => XS.istore X40.here hx rfl (hb hby at_204) rfl (l' := #[.val (.long q1), .second, .val (.long q2), .second, .val (.long q3), .second, .val (.long q4), .second, .val (.int p5), .val (.int p6), .val (.int (p5 &&& (7 : Int32))), .val (.ref aN24_W2), .val (.int (24 : Int32)), .val (.int (2 : Int32)), .val (.int (101 : Int32)), .val (.int (6 : Int32)), .val (.int (96 : Int32)), .unset, .unset, .unset, .unset, .unset, .unset, .unset]) rfl k) ?_
              show Own.Fin p e below (T40.setTop (mkF m 206 #[.val (.long q1), .second, .val (.long q2), .second, .val (.long q3), .second, .val (.long q4), .second, .val (.int p5), .val (.int p6), .val (.int (p5 &&& (7 : Int32))), .val (.ref aN24_W2), .val (.int (24 : Int32)), .val (.int (2 : Int32)), .val (.int (101 : Int32)), .val (.int (6 : Int32)), .val (.int (96 : Int32)), .unset, .unset, .unset, .unset, .unset, .unset, .unset] [])) _
              refine Own.go (fun t k => XS.goto X40.here hx rfl (pc0 := 206) (pc' := 266) rfl (hb hby at_206) (by decide) (by decide) k) ?_
              show Own.Fin p e below (T40.setTop (mkF m 266 #[.val (.long q1), .second, .val (.long q2), .second, .val (.long q3), .second, .val (.long q4), .second, .val (.int p5), .val (.int p6), .val (.int (p5 &&& (7 : Int32))), .val (.ref aN24_W2), .val (.int (24 : Int32)), .val (.int (2 : Int32)), .val (.int (101 : Int32)), .val (.int (6 : Int32)), .val (.int (96 : Int32)), .unset, .unset, .unset, .unset, .unset, .unset, .unset] [])) _
              exact join _ X40 e40 aN24_W2 (2 : Int32) (24 : Int32) (101 : Int32) (6 : Int32) 2 4 24 96 101 (by decide) E_aN24_W2 F_w_aN24_W2 F_n_aN24_W2 F_p_aN24_W2 F_ls_aN24_W2
            · skip
              refine Own.go (fun t k => XS.icmpYes X0.here hx rfl (pc0 := 179) (pc' := 209) rfl (hb hby at_179) rfl (feq hc179_38).2 (by decide) (by decide) k) ?_
              show Own.Fin p e below (s₁.setTop (mkF m 209 #[.val (.long q1), .second, .val (.long q2), .second, .val (.long q3), .second, .val (.long q4), .second, .val (.int p5), .val (.int p6), .val (.int (p5 &&& (7 : Int32))), .unset, .unset, .unset, .unset, .unset, .unset, .unset, .unset, .unset, .unset, .unset, .unset, .unset] [])) _
              refine Own.go (fun t k => XS.iload X0.here hx rfl (hb hby at_209) rfl k) ?_
              show Own.Fin p e below (s₁.setTop (mkF m 211 #[.val (.long q1), .second, .val (.long q2), .second, .val (.long q3), .second, .val (.long q4), .second, .val (.int p5), .val (.int p6), .val (.int (p5 &&& (7 : Int32))), .unset, .unset, .unset, .unset, .unset, .unset, .unset, .unset, .unset, .unset, .unset, .unset, .unset] [(.int (p5 &&& (7 : Int32)))])) _
              refine Own.go (fun t k => XS.bipush X0.here hx rfl (hb hby at_211) k) ?_
              show Own.Fin p e below (s₁.setTop (mkF m 213 #[.val (.long q1), .second, .val (.long q2), .second, .val (.long q3), .second, .val (.long q4), .second, .val (.int p5), .val (.int p6), .val (.int (p5 &&& (7 : Int32))), .unset, .unset, .unset, .unset, .unset, .unset, .unset, .unset, .unset, .unset, .unset, .unset, .unset] [(.int (6 : Int32)), (.int (p5 &&& (7 : Int32)))])) _
              by_cases hc213_40 : (p5 &&& (7 : Int32)) = (6 : Int32)
              · skip
                refine Own.go (fun t k => XS.icmpNo X0.here hx rfl (hb hby at_213) rfl (teq hc213_40).2 k) ?_
                show Own.Fin p e below (s₁.setTop (mkF m 216 #[.val (.long q1), .second, .val (.long q2), .second, .val (.long q3), .second, .val (.long q4), .second, .val (.int p5), .val (.int p6), .val (.int (p5 &&& (7 : Int32))), .unset, .unset, .unset, .unset, .unset, .unset, .unset, .unset, .unset, .unset, .unset, .unset, .unset] [])) _
                obtain ⟨T42, X42, e42, st42⟩ := getS2 X0 hx hZ hown (host := "") (Or.inl (hw _ (List.mem_of_getElem? (i := 51) rfl))) Via.refl e0 (S_aN24_W4.ext O0.2) (g := (mkF m 216 #[.val (.long q1), .second, .val (.long q2), .second, .val (.long q3), .second, .val (.long q4), .second, .val (.int p5), .val (.int p6), .val (.int (p5 &&& (7 : Int32))), .unset, .unset, .unset, .unset, .unset, .unset, .unset, .unset, .unset, .unset, .unset, .unset, .unset] [])) rfl (hb hby at_216)
                refine Own.go st42 ?_
                show Own.Fin p e below (T42.setTop (mkF m 219 #[.val (.long q1), .second, .val (.long q2), .second, .val (.long q3), .second, .val (.long q4), .second, .val (.int p5), .val (.int p6), .val (.int (p5 &&& (7 : Int32))), .unset, .unset, .unset, .unset, .unset, .unset, .unset, .unset, .unset, .unset, .unset, .unset, .unset] [(.ref aN24_W4)])) _
                refine Own.go (fun t k => XS.astore X42.here hx rfl (hb hby at_219) rfl rfl (l' := #[.val (.long q1), .second, .val (.long q2), .second, .val (.long q3), .second, .val (.long q4), .second, .val (.int p5), .val (.int p6), .val (.int (p5 &&& (7 : Int32))), .val (.ref aN24_W4), .unset, .unset, .unset, .unset, .unset, .unset, .unset, .unset, .unset, .unset, .unset, .unset]) rfl k) ?_
                show Own.Fin p e below (T42.setTop (mkF m 221 #[.val (.long q1), .second, .val (.long q2), .second, .val (.long q3), .second, .val (.long q4), .second, .val (.int p5), .val (.int p6), .val (.int (p5 &&& (7 : Int32))), .val (.ref aN24_W4), .unset, .unset, .unset, .unset, .unset, .unset, .unset, .unset, .unset, .unset, .unset, .unset] [])) _
                refine Own.go (fun t k => XS.bipush X42.here hx rfl (hb hby at_221) k) ?_
                show Own.Fin p e below (T42.setTop (mkF m 223 #[.val (.long q1), .second, .val (.long q2), .second, .val (.long q3), .second, .val (.long q4), .second, .val (.int p5), .val (.int p6), .val (.int (p5 &&& (7 : Int32))), .val (.ref aN24_W4), .unset, .unset, .unset, .unset, .unset, .unset, .unset, .unset, .unset, .unset, .unset, .unset] [(.int (24 : Int32))])) _
                refine Own.go (fun t k => XS.istore X42.here hx rfl (hb hby at_223) rfl (l' := #[.val (.long q1), .second, .val (.long q2), .second, .val (.long q3), .second, .val (.long q4), .second, .val (.int p5), .val (.int p6), .val (.int (p5 &&& (7 : Int32))), .val (.ref aN24_W4), .val (.int (24 : Int32)), .unset, .unset, .unset, .unset, .unset, .unset, .unset, .unset, .unset, .unset, .unset]) rfl k) ?_
                show Own.Fin p e below (T42.setTop (mkF m 225 #[.val (.long q1), .second, .val (.long q2), .second, .val (.long q3), .second, .val (.long q4), .second, .val (.int p5), .val (.int p6), .val (.int (p5 &&& (7 : Int32))), .val (.ref aN24_W4), .val (.int (24 : Int32)), .unset, .unset, .unset, .unset, .unset, .unset, .unset, .unset, .unset, .unset, .unset] [])) _
                refine Own.go (fun t k => XS.iconst X42.here hx rfl (hb hby at_225) k) ?_
                show Own.Fin p e below (T42.setTop (mkF m 226 #[.val (.long q1), .second, .val (.long q2), .second, .val (.long q3), .second, .val (.long q4), .second, .val (.int p5), .val (.int p6), .val (.int (p5 &&& (7 : Int32))), .val (.ref aN24_W4), .val (.int (24 : Int32)), .unset, .unset, .unset, .unset, .unset, .unset, .unset, .unset, .unset, .unset, .unset] [(.int (4 : Int32))])) _
                refine Own.go (fun t k => XS.istore X42.here hx rfl (hb hby at_226) rfl (l' := #[.val (.long q1), .second, .val (.long q2), .second, .val (.long q3), .second, .val (.long q4), .second, .val (.int p5), .val (.int p6), .val (.int (p5 &&& (7 : Int32))), .val (.ref aN24_W4), .val (.int (24 : Int32)), .val (.int (4 : Int32)), .unset, .unset, .unset, .unset, .unset, .unset, .unset, .unset, .unset, .unset]) rfl k) ?_
                show Own.Fin p e below (T42.setTop (mkF m 228 #[.val (.long q1), .second, .val (.long q2), .second, .val (.long q3), .second, .val (.long q4), .second, .val (.int p5), .val (.int p6), .val (.int (p5 &&& (7 : Int32))), .val (.ref aN24_W4), .val (.int (24 : Int32)), .val (.int (4 : Int32)), .unset, .unset, .unset, .unset, .unset, .unset, .unset, .unset, .unset, .unset] [])) _
                refine Own.go (fun t k => XS.bipush X42.here hx rfl (hb hby at_228) k) ?_
                show Own.Fin p e below (T42.setTop (mkF m 230 #[.val (.long q1), .second, .val (.long q2), .second, .val (.long q3), .second, .val (.long q4), .second, .val (.int p5), .val (.int p6), .val (.int (p5 &&& (7 : Int32))), .val (.ref aN24_W4), .val (.int (24 : Int32)), .val (.int (4 : Int32)), .unset, .unset, .unset, .unset, .unset, .unset, .unset, .unset, .unset, .unset] [(.int (51 : Int32))])) _
                refine Own.go (fun t k => XS.istore X42.here hx rfl (hb hby at_230) rfl (l' := #[.val (.long q1), .second, .val (.long q2), .second, .val (.long q3), .second, .val (.long q4), .second, .val (.int p5), .val (.int p6), .val (.int (p5 &&& (7 : Int32))), .val (.ref aN24_W4), .val (.int (24 : Int32)), .val (.int (4 : Int32)), .val (.int (51 : Int32)), .unset, .unset, .unset, .unset, .unset, .unset, .unset, .unset, .unset]) rfl k) ?_
                show Own.Fin p e below (T42.setTop (mkF m 232 #[.val (.long q1), .second, .val (.long q2), .second, .val (.long q3), .second, .val (.long q4), .second, .val (.int p5), .val (.int p6), .val (.int (p5 &&& (7 : Int32))), .val (.ref aN24_W4), .val (.int (24 : Int32)), .val (.int (4 : Int32)), .val (.int (51 : Int32)), .unset, .unset, .unset, .unset, .unset, .unset, .unset, .unset, .unset] [])) _
                refine Own.go (fun t k => XS.iconst X42.here hx rfl (hb hby at_232) k) ?_
                show Own.Fin p e below (T42.setTop (mkF m 233 #[.val (.long q1), .second, .val (.long q2), .second, .val (.long q3), .second, .val (.long q4), .second, .val (.int p5), .val (.int p6), .val (.int (p5 &&& (7 : Int32))), .val (.ref aN24_W4), .val (.int (24 : Int32)), .val (.int (4 : Int32)), .val (.int (51 : Int32)), .unset, .unset, .unset, .unset, .unset, .unset, .unset, .unset, .unset] [(.int (4 : Int32))])) _
                refine Own.go (fun t k => XS.istore X42.here hx rfl (hb hby at_233) rfl (l' := #[.val (.long q1), .second, .val (.long q2), .second, .val (.long q3), .second, .val (.long q4), .second, .val (.int p5), .val (.int p6), .val (.int (p5 &&& (7 : Int32))), .val (.ref aN24_W4), .val (.int (24 : Int32)), .val (.int (4 : Int32)), .val (.int (51 : Int32)), .val (.int (4 : Int32)), .unset, .unset, .unset, .unset, .unset, .unset, .unset, .unset]) rfl k) ?_
                show Own.Fin p e below (T42.setTop (mkF m 235 #[.val (.long q1), .second, .val (.long q2), .second, .val (.long q3), .second, .val (.long q4), .second, .val (.int p5), .val (.int p6), .val (.int (p5 &&& (7 : Int32))), .val (.ref aN24_W4), .val (.int (24 : Int32)), .val (.int (4 : Int32)), .val (.int (51 : Int32)), .val (.int (4 : Int32)), .unset, .unset, .unset, .unset, .unset, .unset, .unset, .unset] [])) _
                refine Own.go (fun t k => XS.bipush X42.here hx rfl (hb hby at_235) k) ?_
                show Own.Fin p e below (T42.setTop (mkF m 237 #[.val (.long q1), .second, .val (.long q2), .second, .val (.long q3), .second, .val (.long q4), .second, .val (.int p5), .val (.int p6), .val (.int (p5 &&& (7 : Int32))), .val (.ref aN24_W4), .val (.int (24 : Int32)), .val (.int (4 : Int32)), .val (.int (51 : Int32)), .val (.int (4 : Int32)), .unset, .unset, .unset, .unset, .unset, .unset, .unset, .unset] [(.int (48 : Int32))])) _
                refine Own.go (fun t k => XS.istore X42.here hx rfl (hb hby at_237) rfl (l' := #[.val (.long q1), .second, .val (.long q2), .second, .val (.long q3), .second, .val (.long q4), .second, .val (.int p5), .val (.int p6), .val (.int (p5 &&& (7 : Int32))), .val (.ref aN24_W4), .val (.int (24 : Int32)), .val (.int (4 : Int32)), .val (.int (51 : Int32)), .val (.int (4 : Int32)), .val (.int (48 : Int32)), .unset, .unset, .unset, .unset, .unset, .unset, .unset]) rfl k) ?_
                show Own.Fin p e below (T42.setTop (mkF m 239 #[.val (.long q1), .second, .val (.long q2), .second, .val (.long q3), .second, .val (.long q4), .second, .val (.int p5), .val (.int p6), .val (.int (p5 &&& (7 : Int32))), .val (.ref aN24_W4), .val (.int (24 : Int32)), .val (.int (4 : Int32)), .val (.int (51 : Int32)), .val (.int (4 : Int32)), .val (.int (48 : Int32)), .unset, .unset, .unset, .unset, .unset, .unset, .unset] [])) _
                refine Own.go (fun t k => XS.goto X42.here hx rfl (pc0 := 239) (pc' := 266) rfl (hb hby at_239) (by decide) (by decide) k) ?_
                show Own.Fin p e below (T42.setTop (mkF m 266 #[.val (.long q1), .second, .val (.long q2), .second, .val (.long q3), .second, .val (.long q4), .second, .val (.int p5), .val (.int p6), .val (.int (p5 &&& (7 : Int32))), .val (.ref aN24_W4), .val (.int (24 : Int32)), .val (.int (4 : Int32)), .val (.int (51 : Int32)), .val (.int (4 : Int32)), .val (.int (48 : Int32)), .unset, .unset, .unset, .unset, .unset, .unset, .unset] [])) _
                exact join _ X42 e42 aN24_W4 (4 : Int32) (24 : Int32) (51 : Int32) (4 : Int32) 4 2 24 48 51 (by decide) E_aN24_W4 F_w_aN24_W4 F_n_aN24_W4 F_p_aN24_W4 F_ls_aN24_W4
              · skip
                refine Own.go (fun t k => XS.icmpYes X0.here hx rfl (pc0 := 213) (pc' := 242) rfl (hb hby at_213) rfl (feq hc213_40).2 (by decide) (by decide) k) ?_
                show Own.Fin p e below (s₁.setTop (mkF m 242 #[.val (.long q1), .second, .val (.long q2), .second, .val (.long q3), .second, .val (.long q4), .second, .val (.int p5), .val (.int p6), .val (.int (p5 &&& (7 : Int32))), .unset, .unset, .unset, .unset, .unset, .unset, .unset, .unset, .unset, .unset, .unset, .unset, .unset] [])) _
                obtain ⟨T43, X43, e43, st43⟩ := getS2 X0 hx hZ hown (host := "") (Or.inl (hw _ (List.mem_of_getElem? (i := 42) rfl))) Via.refl e0 (S_aN24_W8.ext O0.2) (g := (mkF m 242 #[.val (.long q1), .second, .val (.long q2), .second, .val (.long q3), .second, .val (.long q4), .second, .val (.int p5), .val (.int p6), .val (.int (p5 &&& (7 : Int32))), .unset, .unset, .unset, .unset, .unset, .unset, .unset, .unset, .unset, .unset, .unset, .unset, .unset] [])) rfl (hb hby at_242)
                refine Own.go st43 ?_
                show Own.Fin p e below (T43.setTop (mkF m 245 #[.val (.long q1), .second, .val (.long q2), .second, .val (.long q3), .second, .val (.long q4), .second, .val (.int p5), .val (.int p6), .val (.int (p5 &&& (7 : Int32))), .unset, .unset, .unset, .unset, .unset, .unset, .unset, .unset, .unset, .unset, .unset, .unset, .unset] [(.ref aN24_W8)])) _
                refine Own.go (fun t k => XS.astore X43.here hx rfl (hb hby at_245) rfl rfl (l' := #[.val (.long q1), .second, .val (.long q2), .second, .val (.long q3), .second, .val (.long q4), .second, .val (.int p5), .val (.int p6), .val (.int (p5 &&& (7 : Int32))), .val (.ref aN24_W8), .unset, .unset, .unset, .unset, .unset, .unset, .unset, .unset, .unset, .unset, .unset, .unset]) rfl k) ?_
                show Own.Fin p e below (T43.setTop (mkF m 247 #[.val (.long q1), .second, .val (.long q2), .second, .val (.long q3), .second, .val (.long q4), .second, .val (.int p5), .val (.int p6), .val (.int (p5 &&& (7 : Int32))), .val (.ref aN24_W8), .unset, .unset, .unset, .unset, .unset, .unset, .unset, .unset, .unset, .unset, .unset, .unset] [])) _
                refine Own.go (fun t k => XS.bipush X43.here hx rfl (hb hby at_247) k) ?_
                show Own.Fin p e below (T43.setTop (mkF m 249 #[.val (.long q1), .second, .val (.long q2), .second, .val (.long q3), .second, .val (.long q4), .second, .val (.int p5), .val (.int p6), .val (.int (p5 &&& (7 : Int32))), .val (.ref aN24_W8), .unset, .unset, .unset, .unset, .unset, .unset, .unset, .unset, .unset, .unset, .unset, .unset] [(.int (24 : Int32))])) _
                refine Own.go (fun t k => XS.istore X43.here hx rfl (hb hby at_249) rfl (l' := #[.val (.long q1), .second, .val (.long q2), .second, .val (.long q3), .second, .val (.long q4), .second, .val (.int p5), .val (.int p6), .val (.int (p5 &&& (7 : Int32))), .val (.ref aN24_W8), .val (.int (24 : Int32)), .unset, .unset, .unset, .unset, .unset, .unset, .unset, .unset, .unset, .unset, .unset]) rfl k) ?_
                show Own.Fin p e below (T43.setTop (mkF m 251 #[.val (.long q1), .second, .val (.long q2), .second, .val (.long q3), .second, .val (.long q4), .second, .val (.int p5), .val (.int p6), .val (.int (p5 &&& (7 : Int32))), .val (.ref aN24_W8), .val (.int (24 : Int32)), .unset, .unset, .unset, .unset, .unset, .unset, .unset, .unset, .unset, .unset, .unset] [])) _
                refine Own.go (fun t k => XS.bipush X43.here hx rfl (hb hby at_251) k) ?_
                show Own.Fin p e below (T43.setTop (mkF m 253 #[.val (.long q1), .second, .val (.long q2), .second, .val (.long q3), .second, .val (.long q4), .second, .val (.int p5), .val (.int p6), .val (.int (p5 &&& (7 : Int32))), .val (.ref aN24_W8), .val (.int (24 : Int32)), .unset, .unset, .unset, .unset, .unset, .unset, .unset, .unset, .unset, .unset, .unset] [(.int (8 : Int32))])) _
                refine Own.go (fun t k => XS.istore X43.here hx rfl (hb hby at_253) rfl (l' := #[.val (.long q1), .second, .val (.long q2), .second, .val (.long q3), .second, .val (.long q4), .second, .val (.int p5), .val (.int p6), .val (.int (p5 &&& (7 : Int32))), .val (.ref aN24_W8), .val (.int (24 : Int32)), .val (.int (8 : Int32)), .unset, .unset, .unset, .unset, .unset, .unset, .unset, .unset, .unset, .unset]) rfl k) ?_
                show Own.Fin p e below (T43.setTop (mkF m 255 #[.val (.long q1), .second, .val (.long q2), .second, .val (.long q3), .second, .val (.long q4), .second, .val (.int p5), .val (.int p6), .val (.int (p5 &&& (7 : Int32))), .val (.ref aN24_W8), .val (.int (24 : Int32)), .val (.int (8 : Int32)), .unset, .unset, .unset, .unset, .unset, .unset, .unset, .unset, .unset, .unset] [])) _
                refine Own.go (fun t k => XS.bipush X43.here hx rfl (hb hby at_255) k) ?_
                show Own.Fin p e below (T43.setTop (mkF m 257 #[.val (.long q1), .second, .val (.long q2), .second, .val (.long q3), .second, .val (.long q4), .second, .val (.int p5), .val (.int p6), .val (.int (p5 &&& (7 : Int32))), .val (.ref aN24_W8), .val (.int (24 : Int32)), .val (.int (8 : Int32)), .unset, .unset, .unset, .unset, .unset, .unset, .unset, .unset, .unset, .unset] [(.int (26 : Int32))])) _
                refine Own.go (fun t k => XS.istore X43.here hx rfl (hb hby at_257) rfl (l' := #[.val (.long q1), .second, .val (.long q2), .second, .val (.long q3), .second, .val (.long q4), .second, .val (.int p5), .val (.int p6), .val (.int (p5 &&& (7 : Int32))), .val (.ref aN24_W8), .val (.int (24 : Int32)), .val (.int (8 : Int32)), .val (.int (26 : Int32)), .unset, .unset, .unset, .unset, .unset, .unset, .unset, .unset, .unset]) rfl k) ?_
                show Own.Fin p e below (T43.setTop (mkF m 259 #[.val (.long q1), .second, .val (.long q2), .second, .val (.long q3), .second, .val (.long q4), .second, .val (.int p5), .val (.int p6), .val (.int (p5 &&& (7 : Int32))), .val (.ref aN24_W8), .val (.int (24 : Int32)), .val (.int (8 : Int32)), .val (.int (26 : Int32)), .unset, .unset, .unset, .unset, .unset, .unset, .unset, .unset, .unset] [])) _
                refine Own.go (fun t k => XS.iconst X43.here hx rfl (hb hby at_259) k) ?_
                show Own.Fin p e below (T43.setTop (mkF m 260 #[.val (.long q1), .second, .val (.long q2), .second, .val (.long q3), .second, .val (.long q4), .second, .val (.int p5), .val (.int p6), .val (.int (p5 &&& (7 : Int32))), .val (.ref aN24_W8), .val (.int (24 : Int32)), .val (.int (8 : Int32)), .val (.int (26 : Int32)), .unset, .unset, .unset, .unset, .unset, .unset, .unset, .unset, .unset] [(.int (0 : Int32))])) _
                refine Own.go (fun t k => XS.istore X43.here hx rfl (hb hby at_260) rfl (l' := #[.val (.long q1), .second, .val (.long q2), .second, .val (.long q3), .second, .val (.long q4), .second, .val (.int p5), .val (.int p6), .val (.int (p5 &&& (7 : Int32))), .val (.ref aN24_W8), .val (.int (24 : Int32)), .val (.int (8 : Int32)), .val (.int (26 : Int32)), .val (.int (0 : Int32)), .unset, .unset, .unset, .unset, .unset, .unset, .unset, .unset]) rfl k) ?_
                show Own.Fin p e below (T43.setTop (mkF m 262 #[.val (.long q1), .second, .val (.long q2), .second, .val (.long q3), .second, .val (.long q4), .second, .val (.int p5), .val (.int p6), .val (.int (p5 &&& (7 : Int32))), .val (.ref aN24_W8), .val (.int (24 : Int32)), .val (.int (8 : Int32)), .val (.int (26 : Int32)), .val (.int (0 : Int32)), .unset, .unset, .unset, .unset, .unset, .unset, .unset, .unset] [])) _
                refine Own.go (fun t k => XS.bipush X43.here hx rfl (hb hby at_262) k) ?_
                show Own.Fin p e below (T43.setTop (mkF m 264 #[.val (.long q1), .second, .val (.long q2), .second, .val (.long q3), .second, .val (.long q4), .second, .val (.int p5), .val (.int p6), .val (.int (p5 &&& (7 : Int32))), .val (.ref aN24_W8), .val (.int (24 : Int32)), .val (.int (8 : Int32)), .val (.int (26 : Int32)), .val (.int (0 : Int32)), .unset, .unset, .unset, .unset, .unset, .unset, .unset, .unset] [(.int (24 : Int32))])) _
                refine Own.go (fun t k => XS.istore X43.here hx rfl (hb hby at_264) rfl (l' := #[.val (.long q1), .second, .val (.long q2), .second, .val (.long q3), .second, .val (.long q4), .second, .val (.int p5), .val (.int p6), .val (.int (p5 &&& (7 : Int32))), .val (.ref aN24_W8), .val (.int (24 : Int32)), .val (.int (8 : Int32)), .val (.int (26 : Int32)), .val (.int (0 : Int32)), .val (.int (24 : Int32)), .unset, .unset, .unset, .unset, .unset, .unset, .unset]) rfl k) ?_
                show Own.Fin p e below (T43.setTop (mkF m 266 #[.val (.long q1), .second, .val (.long q2), .second, .val (.long q3), .second, .val (.long q4), .second, .val (.int p5), .val (.int p6), .val (.int (p5 &&& (7 : Int32))), .val (.ref aN24_W8), .val (.int (24 : Int32)), .val (.int (8 : Int32)), .val (.int (26 : Int32)), .val (.int (0 : Int32)), .val (.int (24 : Int32)), .unset, .unset, .unset, .unset, .unset, .unset, .unset] [])) _
                exact join _ X43 e43 aN24_W8 (8 : Int32) (24 : Int32) (26 : Int32) (0 : Int32) 8 1 24 24 26 (by decide) E_aN24_W8 F_w_aN24_W8 F_n_aN24_W8 F_p_aN24_W8 F_ls_aN24_W8
set_option maxRecDepth 65536 in
set_option maxHeartbeats 40000000 in
theorem comes_1 {Post : Tables → Env → Array Value → State → Outcome → State → Prop} (hpost : ∀ tb e args s v u, (limb_1_1.after args s (.returned v) u = true ∧ limb_1_2.after args s (.returned v) u = true ∧ True) → FrameEnd s (.returned v) u (Jvm.fieldLocs frame_1_writes args s ++ Jvm.arrayLocs frame_1_arrays args s ++ Jvm.staticLocs frame_1_statics s) 16 704 → Post tb e args s (.returned v) u) :
    ArmFor flags0 classFile x code maxLocals ret World_1 tables_1 room_1 Calls_1 rest_1 Pre_1 Post := by
  intro l hfl _ _ p e ha hc hk s m args below hf hA hF happ hP
  obtain ⟨hcalls, hrest, hpre⟩ := hP
  obtain ⟨-, -, -, hnamed, -, -, -, hat⟩ := (Spec.applies_iff hf).mp happ
  obtain ⟨hg, hn⟩ := and_e (Cond.before_iff.mp (show (Jvm.Cond.and given_1 narrow_1).before args s = true from hpre))
  obtain ⟨g1, g2⟩ := and_e hg
  obtain ⟨g3, g4⟩ := and_e g2
  obtain ⟨g5, g6⟩ := and_e g4
  obtain ⟨g7, g8⟩ := and_e g6
  obtain ⟨g9, g10⟩ := and_e g8
  obtain ⟨g11, g12⟩ := and_e g10
  obtain ⟨w0, w1, w2, w3, w4, w5, rfl⟩ : ∃ w0 w1 w2 w3 w4 w5 : Value, args = #[w0, w1, w2, w3, w4, w5] := by
    have hs : args.size = 6 := by simpa [Cond.value, given_1] using g1
    obtain ⟨L⟩ := args
    match L, hs with
    | [w0, w1, w2, w3, w4, w5], _ => exact ⟨w0, w1, w2, w3, w4, w5, rfl⟩
  have hw := fun d (hd : d ∈ tables_1) => atoms_spec (ws := Jvm.Cond.code x code maxLocals ret :: tables_1) hat d (List.mem_cons_of_mem _ hd)
  have hfit : Fit s := fun {y c} hc i hi => by
    obtain ⟨ha, rfl⟩ := Array.getElem?_eq_some_iff.mp hc
    have q := List.all_eq_true.mp ((Array.all_eq_true_iff_forall_mem.mp hF) _ (Array.getElem_mem ha)) i (List.mem_range.mpr hi)
    simpa [Array.getElem?_eq_getElem hi] using q
  obtain ⟨i0, ei0⟩ := isL_v g3
  obtain rfl : w0 = (.long i0) := Option.some.inj ei0
  obtain ⟨i1, ei1⟩ := isL_v g5
  obtain rfl : w1 = (.long i1) := Option.some.inj ei1
  obtain ⟨i2, ei2⟩ := isL_v g7
  obtain rfl : w2 = (.long i2) := Option.some.inj ei2
  obtain ⟨i3, ei3⟩ := isL_v g9
  obtain rfl : w3 = (.long i3) := Option.some.inj ei3
  obtain ⟨i4, ei4⟩ := is_v g11
  obtain rfl : w4 = (.int i4) := Option.some.inj ei4
  obtain ⟨i5, ei5⟩ := is_v g12
  obtain rfl : w5 = (.int i5) := Option.some.inj ei5
  obtain ⟨xN32_W8, hn0⟩ := and_e hn
  obtain ⟨wN32_W8, hn1⟩ := and_e hn0
  obtain ⟨nN32_W8, hn2⟩ := and_e hn1
  obtain ⟨pN32_W8, hn3⟩ := and_e hn2
  obtain ⟨lN32_W8, hn4⟩ := and_e hn3
  obtain ⟨xN24_W2, hn5⟩ := and_e hn4
  obtain ⟨wN24_W2, hn6⟩ := and_e hn5
  obtain ⟨nN24_W2, hn7⟩ := and_e hn6
  obtain ⟨pN24_W2, hn8⟩ := and_e hn7
  obtain ⟨lN24_W2, hn9⟩ := and_e hn8
  obtain ⟨xN32_W2, hn10⟩ := and_e hn9
  obtain ⟨wN32_W2, hn11⟩ := and_e hn10
  obtain ⟨nN32_W2, hn12⟩ := and_e hn11
  obtain ⟨pN32_W2, hn13⟩ := and_e hn12
  obtain ⟨lN32_W2, hn14⟩ := and_e hn13
  obtain ⟨xN24_W8, hn15⟩ := and_e hn14
  obtain ⟨wN24_W8, hn16⟩ := and_e hn15
  obtain ⟨nN24_W8, hn17⟩ := and_e hn16
  obtain ⟨pN24_W8, hn18⟩ := and_e hn17
  obtain ⟨lN24_W8, hn19⟩ := and_e hn18
  obtain ⟨xN32_W4, hn20⟩ := and_e hn19
  obtain ⟨wN32_W4, hn21⟩ := and_e hn20
  obtain ⟨nN32_W4, hn22⟩ := and_e hn21
  obtain ⟨pN32_W4, hn23⟩ := and_e hn22
  obtain ⟨lN32_W4, hn24⟩ := and_e hn23
  obtain ⟨xN32_W1, hn25⟩ := and_e hn24
  obtain ⟨wN32_W1, hn26⟩ := and_e hn25
  obtain ⟨nN32_W1, hn27⟩ := and_e hn26
  obtain ⟨pN32_W1, hn28⟩ := and_e hn27
  obtain ⟨lN32_W1, hn29⟩ := and_e hn28
  obtain ⟨xN24_W1, hn30⟩ := and_e hn29
  obtain ⟨wN24_W1, hn31⟩ := and_e hn30
  obtain ⟨nN24_W1, hn32⟩ := and_e hn31
  obtain ⟨pN24_W1, hn33⟩ := and_e hn32
  obtain ⟨lN24_W1, hn34⟩ := and_e hn33
  obtain ⟨xN24_W4, hn35⟩ := and_e hn34
  obtain ⟨wN24_W4, hn36⟩ := and_e hn35
  obtain ⟨nN24_W4, hn37⟩ := and_e hn36
  obtain ⟨pN24_W4, lN24_W4⟩ := and_e hn37
  have hini := fun {f d : String} (w : (Cond.laysStatic "com/example/treadle/treadle/LmOtsType" f d).before #[.long i0, .long i1, .long i2, .long i3, .int i4, .int i5] s = true) => (Or.inr ⟨(hw _ (List.mem_of_getElem? (i := 1) rfl)), w⟩ : (Cond.initializedFor "com/example/treadle/treadle/LmOtsType" f d).before #[.long i0, .long i1, .long i2, .long i3, .int i4, .int i5] s = true ∨ ((Cond.initialized "com/example/treadle/treadle/LmOtsType").before #[.long i0, .long i1, .long i2, .long i3, .int i4, .int i5] s = true ∧ (Cond.laysStatic "com/example/treadle/treadle/LmOtsType" f d).before #[.long i0, .long i1, .long i2, .long i3, .int i4, .int i5] s = true))
  obtain ⟨aN32_W8, eaN32_W8⟩ := exa_v xN32_W8
  have E_aN32_W8 := Exa.start eaN32_W8 xN32_W8
  have S_aN32_W8 : Sta s s.heap "com/example/treadle/treadle/LmOtsType" "LMOTS_SHA256_N32_W8" "Lcom/example/treadle/treadle/LmOtsType;" (.ref aN32_W8) := Sta.start eaN32_W8 (hini (hw _ (List.mem_of_getElem? (i := 2) rfl)))
  have F_w_aN32_W8 : Fld s s.heap aN32_W8 "com/example/treadle/treadle/LmOtsType" "w" "I" (.int (8 : Int32)) := Fld.start ((fld_at eaN32_W8).symm.trans (Own.eqI wN32_W8 (Term.int_eval _)))
  have F_n_aN32_W8 : Fld s s.heap aN32_W8 "com/example/treadle/treadle/LmOtsType" "n" "I" (.int (32 : Int32)) := Fld.start ((fld_at eaN32_W8).symm.trans (Own.eqI nN32_W8 (Term.int_eval _)))
  have F_p_aN32_W8 : Fld s s.heap aN32_W8 "com/example/treadle/treadle/LmOtsType" "p" "I" (.int (34 : Int32)) := Fld.start ((fld_at eaN32_W8).symm.trans (Own.eqI pN32_W8 (Term.int_eval _)))
  have F_ls_aN32_W8 : Fld s s.heap aN32_W8 "com/example/treadle/treadle/LmOtsType" "ls" "I" (.int (0 : Int32)) := Fld.start ((fld_at eaN32_W8).symm.trans (Own.eqI lN32_W8 (Term.int_eval _)))
  obtain ⟨aN24_W2, eaN24_W2⟩ := exa_v xN24_W2
  have E_aN24_W2 := Exa.start eaN24_W2 xN24_W2
  have S_aN24_W2 : Sta s s.heap "com/example/treadle/treadle/LmOtsType" "LMOTS_SHA256_N24_W2" "Lcom/example/treadle/treadle/LmOtsType;" (.ref aN24_W2) := Sta.start eaN24_W2 (hini (hw _ (List.mem_of_getElem? (i := 37) rfl)))
  have F_w_aN24_W2 : Fld s s.heap aN24_W2 "com/example/treadle/treadle/LmOtsType" "w" "I" (.int (2 : Int32)) := Fld.start ((fld_at eaN24_W2).symm.trans (Own.eqI wN24_W2 (Term.int_eval _)))
  have F_n_aN24_W2 : Fld s s.heap aN24_W2 "com/example/treadle/treadle/LmOtsType" "n" "I" (.int (24 : Int32)) := Fld.start ((fld_at eaN24_W2).symm.trans (Own.eqI nN24_W2 (Term.int_eval _)))
  have F_p_aN24_W2 : Fld s s.heap aN24_W2 "com/example/treadle/treadle/LmOtsType" "p" "I" (.int (101 : Int32)) := Fld.start ((fld_at eaN24_W2).symm.trans (Own.eqI pN24_W2 (Term.int_eval _)))
  have F_ls_aN24_W2 : Fld s s.heap aN24_W2 "com/example/treadle/treadle/LmOtsType" "ls" "I" (.int (6 : Int32)) := Fld.start ((fld_at eaN24_W2).symm.trans (Own.eqI lN24_W2 (Term.int_eval _)))
  obtain ⟨aN32_W2, eaN32_W2⟩ := exa_v xN32_W2
  have E_aN32_W2 := Exa.start eaN32_W2 xN32_W2
  have S_aN32_W2 : Sta s s.heap "com/example/treadle/treadle/LmOtsType" "LMOTS_SHA256_N32_W2" "Lcom/example/treadle/treadle/LmOtsType;" (.ref aN32_W2) := Sta.start eaN32_W2 (hini (hw _ (List.mem_of_getElem? (i := 41) rfl)))
  have F_w_aN32_W2 : Fld s s.heap aN32_W2 "com/example/treadle/treadle/LmOtsType" "w" "I" (.int (2 : Int32)) := Fld.start ((fld_at eaN32_W2).symm.trans (Own.eqI wN32_W2 (Term.int_eval _)))
  have F_n_aN32_W2 : Fld s s.heap aN32_W2 "com/example/treadle/treadle/LmOtsType" "n" "I" (.int (32 : Int32)) := Fld.start ((fld_at eaN32_W2).symm.trans (Own.eqI nN32_W2 (Term.int_eval _)))
  have F_p_aN32_W2 : Fld s s.heap aN32_W2 "com/example/treadle/treadle/LmOtsType" "p" "I" (.int (133 : Int32)) := Fld.start ((fld_at eaN32_W2).symm.trans (Own.eqI pN32_W2 (Term.int_eval _)))
  have F_ls_aN32_W2 : Fld s s.heap aN32_W2 "com/example/treadle/treadle/LmOtsType" "ls" "I" (.int (6 : Int32)) := Fld.start ((fld_at eaN32_W2).symm.trans (Own.eqI lN32_W2 (Term.int_eval _)))
  obtain ⟨aN24_W8, eaN24_W8⟩ := exa_v xN24_W8
  have E_aN24_W8 := Exa.start eaN24_W8 xN24_W8
  have S_aN24_W8 : Sta s s.heap "com/example/treadle/treadle/LmOtsType" "LMOTS_SHA256_N24_W8" "Lcom/example/treadle/treadle/LmOtsType;" (.ref aN24_W8) := Sta.start eaN24_W8 (hini (hw _ (List.mem_of_getElem? (i := 43) rfl)))
  have F_w_aN24_W8 : Fld s s.heap aN24_W8 "com/example/treadle/treadle/LmOtsType" "w" "I" (.int (8 : Int32)) := Fld.start ((fld_at eaN24_W8).symm.trans (Own.eqI wN24_W8 (Term.int_eval _)))
  have F_n_aN24_W8 : Fld s s.heap aN24_W8 "com/example/treadle/treadle/LmOtsType" "n" "I" (.int (24 : Int32)) := Fld.start ((fld_at eaN24_W8).symm.trans (Own.eqI nN24_W8 (Term.int_eval _)))
  have F_p_aN24_W8 : Fld s s.heap aN24_W8 "com/example/treadle/treadle/LmOtsType" "p" "I" (.int (26 : Int32)) := Fld.start ((fld_at eaN24_W8).symm.trans (Own.eqI pN24_W8 (Term.int_eval _)))
  have F_ls_aN24_W8 : Fld s s.heap aN24_W8 "com/example/treadle/treadle/LmOtsType" "ls" "I" (.int (0 : Int32)) := Fld.start ((fld_at eaN24_W8).symm.trans (Own.eqI lN24_W8 (Term.int_eval _)))
  obtain ⟨aN32_W4, eaN32_W4⟩ := exa_v xN32_W4
  have E_aN32_W4 := Exa.start eaN32_W4 xN32_W4
  have S_aN32_W4 : Sta s s.heap "com/example/treadle/treadle/LmOtsType" "LMOTS_SHA256_N32_W4" "Lcom/example/treadle/treadle/LmOtsType;" (.ref aN32_W4) := Sta.start eaN32_W4 (hini (hw _ (List.mem_of_getElem? (i := 45) rfl)))
  have F_w_aN32_W4 : Fld s s.heap aN32_W4 "com/example/treadle/treadle/LmOtsType" "w" "I" (.int (4 : Int32)) := Fld.start ((fld_at eaN32_W4).symm.trans (Own.eqI wN32_W4 (Term.int_eval _)))
  have F_n_aN32_W4 : Fld s s.heap aN32_W4 "com/example/treadle/treadle/LmOtsType" "n" "I" (.int (32 : Int32)) := Fld.start ((fld_at eaN32_W4).symm.trans (Own.eqI nN32_W4 (Term.int_eval _)))
  have F_p_aN32_W4 : Fld s s.heap aN32_W4 "com/example/treadle/treadle/LmOtsType" "p" "I" (.int (67 : Int32)) := Fld.start ((fld_at eaN32_W4).symm.trans (Own.eqI pN32_W4 (Term.int_eval _)))
  have F_ls_aN32_W4 : Fld s s.heap aN32_W4 "com/example/treadle/treadle/LmOtsType" "ls" "I" (.int (4 : Int32)) := Fld.start ((fld_at eaN32_W4).symm.trans (Own.eqI lN32_W4 (Term.int_eval _)))
  obtain ⟨aN32_W1, eaN32_W1⟩ := exa_v xN32_W1
  have E_aN32_W1 := Exa.start eaN32_W1 xN32_W1
  have S_aN32_W1 : Sta s s.heap "com/example/treadle/treadle/LmOtsType" "LMOTS_SHA256_N32_W1" "Lcom/example/treadle/treadle/LmOtsType;" (.ref aN32_W1) := Sta.start eaN32_W1 (hini (hw _ (List.mem_of_getElem? (i := 47) rfl)))
  have F_w_aN32_W1 : Fld s s.heap aN32_W1 "com/example/treadle/treadle/LmOtsType" "w" "I" (.int (1 : Int32)) := Fld.start ((fld_at eaN32_W1).symm.trans (Own.eqI wN32_W1 (Term.int_eval _)))
  have F_n_aN32_W1 : Fld s s.heap aN32_W1 "com/example/treadle/treadle/LmOtsType" "n" "I" (.int (32 : Int32)) := Fld.start ((fld_at eaN32_W1).symm.trans (Own.eqI nN32_W1 (Term.int_eval _)))
  have F_p_aN32_W1 : Fld s s.heap aN32_W1 "com/example/treadle/treadle/LmOtsType" "p" "I" (.int (265 : Int32)) := Fld.start ((fld_at eaN32_W1).symm.trans (Own.eqI pN32_W1 (Term.int_eval _)))
  have F_ls_aN32_W1 : Fld s s.heap aN32_W1 "com/example/treadle/treadle/LmOtsType" "ls" "I" (.int (7 : Int32)) := Fld.start ((fld_at eaN32_W1).symm.trans (Own.eqI lN32_W1 (Term.int_eval _)))
  obtain ⟨aN24_W1, eaN24_W1⟩ := exa_v xN24_W1
  have E_aN24_W1 := Exa.start eaN24_W1 xN24_W1
  have S_aN24_W1 : Sta s s.heap "com/example/treadle/treadle/LmOtsType" "LMOTS_SHA256_N24_W1" "Lcom/example/treadle/treadle/LmOtsType;" (.ref aN24_W1) := Sta.start eaN24_W1 (hini (hw _ (List.mem_of_getElem? (i := 50) rfl)))
  have F_w_aN24_W1 : Fld s s.heap aN24_W1 "com/example/treadle/treadle/LmOtsType" "w" "I" (.int (1 : Int32)) := Fld.start ((fld_at eaN24_W1).symm.trans (Own.eqI wN24_W1 (Term.int_eval _)))
  have F_n_aN24_W1 : Fld s s.heap aN24_W1 "com/example/treadle/treadle/LmOtsType" "n" "I" (.int (24 : Int32)) := Fld.start ((fld_at eaN24_W1).symm.trans (Own.eqI nN24_W1 (Term.int_eval _)))
  have F_p_aN24_W1 : Fld s s.heap aN24_W1 "com/example/treadle/treadle/LmOtsType" "p" "I" (.int (200 : Int32)) := Fld.start ((fld_at eaN24_W1).symm.trans (Own.eqI pN24_W1 (Term.int_eval _)))
  have F_ls_aN24_W1 : Fld s s.heap aN24_W1 "com/example/treadle/treadle/LmOtsType" "ls" "I" (.int (8 : Int32)) := Fld.start ((fld_at eaN24_W1).symm.trans (Own.eqI lN24_W1 (Term.int_eval _)))
  obtain ⟨aN24_W4, eaN24_W4⟩ := exa_v xN24_W4
  have E_aN24_W4 := Exa.start eaN24_W4 xN24_W4
  have S_aN24_W4 : Sta s s.heap "com/example/treadle/treadle/LmOtsType" "LMOTS_SHA256_N24_W4" "Lcom/example/treadle/treadle/LmOtsType;" (.ref aN24_W4) := Sta.start eaN24_W4 (hini (hw _ (List.mem_of_getElem? (i := 52) rfl)))
  have F_w_aN24_W4 : Fld s s.heap aN24_W4 "com/example/treadle/treadle/LmOtsType" "w" "I" (.int (4 : Int32)) := Fld.start ((fld_at eaN24_W4).symm.trans (Own.eqI wN24_W4 (Term.int_eval _)))
  have F_n_aN24_W4 : Fld s s.heap aN24_W4 "com/example/treadle/treadle/LmOtsType" "n" "I" (.int (24 : Int32)) := Fld.start ((fld_at eaN24_W4).symm.trans (Own.eqI nN24_W4 (Term.int_eval _)))
  have F_p_aN24_W4 : Fld s s.heap aN24_W4 "com/example/treadle/treadle/LmOtsType" "p" "I" (.int (51 : Int32)) := Fld.start ((fld_at eaN24_W4).symm.trans (Own.eqI pN24_W4 (Term.int_eval _)))
  have F_ls_aN24_W4 : Fld s s.heap aN24_W4 "com/example/treadle/treadle/LmOtsType" "ls" "I" (.int (4 : Int32)) := Fld.start ((fld_at eaN24_W4).symm.trans (Own.eqI lN24_W4 (Term.int_eval _)))
  obtain ⟨n, o, h1, h2, h3, _, L, rfl, ⟨rfl, N⟩, hq⟩ := rm0 l s _ hw tables_1 i0 i1 i2 i3 i4 i5 aN32_W1 aN32_W2 aN32_W4 aN32_W8 aN24_W1 aN24_W2 aN24_W4 aN24_W8 s.heap s.heap.size (Nat.le_refl _) (Old.start s) S_aN32_W1 E_aN32_W1 F_w_aN32_W1 F_n_aN32_W1 F_p_aN32_W1 F_ls_aN32_W1 S_aN32_W2 E_aN32_W2 F_w_aN32_W2 F_n_aN32_W2 F_p_aN32_W2 F_ls_aN32_W2 S_aN32_W4 E_aN32_W4 F_w_aN32_W4 F_n_aN32_W4 F_p_aN32_W4 F_ls_aN32_W4 S_aN32_W8 E_aN32_W8 F_w_aN32_W8 F_n_aN32_W8 F_p_aN32_W8 F_ls_aN32_W8 S_aN24_W1 E_aN24_W1 F_w_aN24_W1 F_n_aN24_W1 F_p_aN24_W1 F_ls_aN24_W1 S_aN24_W2 E_aN24_W2 F_w_aN24_W2 F_n_aN24_W2 F_p_aN24_W2 F_ls_aN24_W2 S_aN24_W4 E_aN24_W4 F_w_aN24_W4 F_n_aN24_W4 F_p_aN24_W4 F_ls_aN24_W4 S_aN24_W8 E_aN24_W8 F_w_aN24_W8 F_n_aN24_W8 F_p_aN24_W8 F_ls_aN24_W8 p e ha hc hk s m _ below hf ((Spec.applies_iff_loose hf).mp happ).1 ⟨rfl, State.Warmed39.refl s, rfl⟩ trivial
  refine ⟨n, _, h1, h2, h3, hpost _ _ _ _ _ _ ⟨Cond.after_iff.mpr rfl, Cond.after_iff.mpr (eq_i res_at (Term.int_eval (1)) rfl), trivial⟩ ⟨hq.1, hq.2.1, (hq.2.2.sift fun y hy => Or.inr (N y hy)).mono (by decide) (by decide)⟩⟩
theorem main_1_1 : Claimed_1_1 := comes_1 fun _ _ _ _ _ _ h hF => ⟨h.1, hF⟩
theorem main_1_2 : Claimed_1_2 := comes_1 fun _ _ _ _ _ _ h hF => ⟨h.2.1, hF⟩
end Jvm.Pilot.@@N@@
namespace Jvm.Pilot.@@N@@
open Jvm Jvm.ClassFile Sem Op Lib Jvm.Free Jvm.Stand Jvm.Pilot.@@N@@.Jvm.D
/-! MADE BY PROGRAM (witnessworld.py) out of the Statement's table words and the real class files: 12 classes; the members and pool entries that the words name. The judged class is class 1, her method 4. -/
namespace start1
open Jvm.ClassFile
def u (s : String) : CpInfo := .utf8 (stringToUtf16 s)
/-- a pool by its gaps: so many unusable entries, then the entry; so many at the end -/
def gap : Nat → List CpInfo → List CpInfo
  | 0, r => r
  | n + 1, r => .unusable :: gap n r
def poolList (es : List (Nat × CpInfo)) (last : Nat) : List CpInfo := es.foldr (fun e r => gap e.1 (e.2 :: r)) (gap last [])
def pool (es : List (Nat × CpInfo)) (last : Nat) : Array CpInfo := ⟨poolList es last⟩
def fileOf (pool : Array CpInfo) (this : Nat) (attrs : Array Attribute := #[]) (ms : Array MethodInfo := #[]) (fl : Nat := 33) (sup : Nat := 0) (ifs : Array Nat := #[]) (fds : Array FieldInfo := #[]) : ClassFile where
  minorVersion := 0
  majorVersion := 65
  constantPool := pool
  accessFlags := fl
  thisClass := this
  superClass := sup
  interfaces := ifs
  fields := fds
  methods := ms
  attributes := attrs
def plain (name : String) (sup : Option ClassId) : Class where
  name := name
  kind := .ordinary
  loader := none
  accessFlags := 33
  super := sup
  interfaces := #[]
  cf := none
  fields := #[]
  methods := #[]
  instanceTypes := #[]
  staticTypes := #[]
  resolved := #[]
  callSites := []
  init := .initialized
  statics := none
  mirror := none

def pool0 : Array CpInfo := pool [(5, u "<init>"), (0, u "()V"), (1, .class_ 10), (1, u "java/lang/Object")] 113

def k0m0 : Method := { name := "<init>", desc := "()V", sig := { parameters := [], returnType := none }, accessFlags := 1, code := none }
/-- java/lang/Object -/
def k0 : Class := { plain "java/lang/Object" none with
  accessFlags := 33
  interfaces := #[]
  cf := some (fileOf pool0 8 #[] #[{ accessFlags := 1, nameIndex := 5, descriptorIndex := 6, attributes := #[] }] 33 0 #[] #[])
  fields := #[]
  methods := #[k0m0]
  instanceTypes := #[]
  staticTypes := #[]
  resolved := Array.replicate 124 none
  statics := none }

def pool1 : Array CpInfo := pool [(2, .class_ 4), (1, u "java/lang/Object"), (0, u "<init>"), (0, u "()V"), (0, .long 6148914691236517205), (1, .long 3689348814741910323), (1, .long 1085102592571150095), (1, .long 71777214294589695), (1, .long 281470681808895), (1, .long 4294967295), (1, .fieldref 20 21), (0, .class_ 22), (0, .nameAndType 23 24), (0, u "com/example/treadle/treadle/LmOtsType"), (0, u "LMOTS_SHA256_N32_W1"), (0, u "Lcom/example/treadle/treadle/LmOtsType;"), (0, .fieldref 20 26), (0, .nameAndType 27 24), (0, u "LMOTS_SHA256_N32_W2"), (0, .fieldref 20 29), (0, .nameAndType 30 24), (0, u "LMOTS_SHA256_N32_W4"), (0, .fieldref 20 32), (0, .nameAndType 33 24), (0, u "LMOTS_SHA256_N32_W8"), (0, .fieldref 20 35), (0, .nameAndType 36 24), (0, u "LMOTS_SHA256_N24_W1"), (0, .fieldref 20 38), (0, .nameAndType 39 24), (0, u "LMOTS_SHA256_N24_W2"), (0, .fieldref 20 41), (0, .nameAndType 42 24), (0, u "LMOTS_SHA256_N24_W4"), (0, .fieldref 20 44), (0, .nameAndType 45 24), (0, u "LMOTS_SHA256_N24_W8"), (0, .methodref 47 48), (0, .class_ 49), (0, .nameAndType 50 51), (0, u "com/example/treadle/treadle/LmOtsTypeCoefficientsPinLaw"), (0, u "put"), (0, u "([BIJ)V"), (0, .methodref 20 53), (0, .nameAndType 54 55), (0, u "coefficients"), (0, u "([B)[I"), (0, .methodref 47 57), (0, .nameAndType 58 59), (0, u "fieldSum"), (0, u "(JI)I"), (0, .integer 65535), (0, .methodref 47 62), (0, .nameAndType 63 64), (0, u "expected"), (0, u "(JJJJIIIII)I"), (3, u "law"), (0, u "(JJJJII)Z")] 6

def k1m0 : Method := { name := "<init>", desc := "()V", sig := { parameters := [], returnType := none }, accessFlags := 1, code := none }
def k1c1 : Code := { maxStack := 5, maxLocals := 4, code := method_2_code, exceptionTable := #[], attributes := #[] }
def k1m1 : Method := { name := "put", desc := "([BIJ)V", sig := { parameters := [(.array .byte), .int, .long], returnType := none }, accessFlags := 10, code := some k1c1 }
def k1c2 : Code := { maxStack := 6, maxLocals := 5, code := method_3_code, exceptionTable := #[], attributes := #[] }
def k1m2 : Method := { name := "fieldSum", desc := "(JI)I", sig := { parameters := [.long, .int], returnType := some .int }, accessFlags := 10, code := some k1c2 }
def k1c3 : Code := { maxStack := 5, maxLocals := 17, code := method_4_code, exceptionTable := #[], attributes := #[] }
def k1m3 : Method := { name := "expected", desc := "(JJJJIIIII)I", sig := { parameters := [.long, .long, .long, .long, .int, .int, .int, .int, .int], returnType := some .int }, accessFlags := 10, code := some k1c3 }
def k1c4 : Code := { maxStack := 14, maxLocals := 24, code := code, exceptionTable := #[], attributes := #[] }
def k1m4 : Method := { name := "law", desc := "(JJJJII)Z", sig := { parameters := [.long, .long, .long, .long, .int, .int], returnType := some .boolean }, accessFlags := 9, code := some k1c4 }
/-- com/example/treadle/treadle/LmOtsTypeCoefficientsPinLaw -/
def k1 : Class := { plain "com/example/treadle/treadle/LmOtsTypeCoefficientsPinLaw" (some 0) with
  accessFlags := 49
  interfaces := #[]
  cf := some (fileOf pool1 47 #[] #[{ accessFlags := 1, nameIndex := 5, descriptorIndex := 6, attributes := #[] }, { accessFlags := 10, nameIndex := 50, descriptorIndex := 51, attributes := #[] }, { accessFlags := 10, nameIndex := 58, descriptorIndex := 59, attributes := #[] }, { accessFlags := 10, nameIndex := 63, descriptorIndex := 64, attributes := #[] }, { accessFlags := 9, nameIndex := 68, descriptorIndex := 69, attributes := #[] }] 49 2 #[] #[])
  fields := #[]
  methods := #[k1m0, k1m1, k1m2, k1m3, k1m4]
  instanceTypes := #[]
  staticTypes := #[]
  resolved := Array.replicate 76 none
  statics := none }

def pool2 : Array CpInfo := pool [(1, .class_ 2), (0, u "java/lang/constant/Constable"), (0, .class_ 4), (0, u "java/lang/Object")] 6

/-- java/lang/constant/Constable -/
def k2 : Class := { plain "java/lang/constant/Constable" (some 0) with
  accessFlags := 1537
  interfaces := #[]
  cf := some (fileOf pool2 1 #[] #[] 1537 3 #[] #[])
  fields := #[]
  methods := #[]
  instanceTypes := #[]
  staticTypes := #[]
  resolved := Array.replicate 11 none
  statics := none }

def pool3 : Array CpInfo := pool [(1, .class_ 2), (0, u "java/lang/Comparable"), (0, .class_ 4), (0, u "java/lang/Object")] 7

/-- java/lang/Comparable -/
def k3 : Class := { plain "java/lang/Comparable" (some 0) with
  accessFlags := 1537
  interfaces := #[]
  cf := some (fileOf pool3 1 #[] #[] 1537 3 #[] #[])
  fields := #[]
  methods := #[]
  instanceTypes := #[]
  staticTypes := #[]
  resolved := Array.replicate 12 none
  statics := none }

def pool4 : Array CpInfo := pool [(1, .class_ 2), (0, u "java/io/Serializable"), (0, .class_ 4), (0, u "java/lang/Object")] 2

/-- java/io/Serializable -/
def k4 : Class := { plain "java/io/Serializable" (some 0) with
  accessFlags := 1537
  interfaces := #[]
  cf := some (fileOf pool4 1 #[] #[] 1537 3 #[] #[])
  fields := #[]
  methods := #[]
  instanceTypes := #[]
  staticTypes := #[]
  resolved := Array.replicate 7 none
  statics := none }

def pool5 : Array CpInfo := pool [(2, .class_ 4), (1, u "java/lang/Enum"), (0, u "name"), (0, u "Ljava/lang/String;"), (2, u "ordinal"), (0, u "I"), (1, .class_ 14), (1, u "java/lang/Object"), (4, u "hash"), (86, .class_ 108), (1, u "java/lang/Enum$EnumDesc"), (2, .class_ 112), (0, u "java/lang/constant/Constable"), (0, .class_ 114), (0, u "java/lang/Comparable"), (0, .class_ 116), (0, u "java/io/Serializable")] 87

/-- java/lang/Enum -/
def k5 : Class := { plain "java/lang/Enum" (some 0) with
  accessFlags := 1057
  interfaces := #[2, 3, 4]
  cf := some (fileOf pool5 2 #[.nestMembers #[106]] #[] 1057 12 #[111, 113, 115] #[{ accessFlags := 18, nameIndex := 5, descriptorIndex := 6, attributes := #[] }, { accessFlags := 18, nameIndex := 9, descriptorIndex := 10, attributes := #[] }, { accessFlags := 2, nameIndex := 19, descriptorIndex := 10, attributes := #[] }])
  fields := #[{ name := "name", type := (.object "java/lang/String"), accessFlags := 18, slot := 0, constantValue := 0 }, { name := "ordinal", type := .int, accessFlags := 18, slot := 1, constantValue := 0 }, { name := "hash", type := .int, accessFlags := 2, slot := 2, constantValue := 0 }]
  methods := #[]
  instanceTypes := #[(.object "java/lang/String"), .int, .int]
  staticTypes := #[]
  resolved := Array.replicate 204 none
  statics := none }

def pool6 : Array CpInfo := pool [(1, .class_ 2), (0, u "com/example/treadle/treadle/LmOtsType"), (2, u "LMOTS_SHA256_N32_W1"), (0, u "Lcom/example/treadle/treadle/LmOtsType;"), (2, u "LMOTS_SHA256_N32_W2"), (2, u "LMOTS_SHA256_N32_W4"), (2, u "LMOTS_SHA256_N32_W8"), (2, u "LMOTS_SHA256_N24_W1"), (2, u "LMOTS_SHA256_N24_W2"), (2, u "LMOTS_SHA256_N24_W4"), (2, u "LMOTS_SHA256_N24_W8"), (2, u "$VALUES"), (0, u "[Lcom/example/treadle/treadle/LmOtsType;"), (6, .class_ 40), (1, u "java/lang/Enum"), (8, u "code"), (0, u "I"), (0, .fieldref 1 52), (0, .nameAndType 53 50), (0, u "n"), (0, .fieldref 1 55), (0, .nameAndType 56 50), (0, u "w"), (0, .fieldref 1 58), (0, .nameAndType 59 50), (0, u "p"), (0, .fieldref 1 61), (0, .nameAndType 62 50), (0, u "ls"), (0, .methodref 1 64), (0, .nameAndType 65 66), (0, u "coef"), (0, u "([BI)I"), (83, u "coefficients"), (0, u "([B)[I")] 58

def k6c0 : Code := { maxStack := 6, maxLocals := 8, code := prog_18_method_9_code, exceptionTable := #[], attributes := #[] }
def k6m0 : Method := { name := "coefficients", desc := "([B)[I", sig := { parameters := [(.array .byte)], returnType := some (.array .int) }, accessFlags := 0, code := some k6c0 }
def k6c1 : Code := { maxStack := 5, maxLocals := 4, code := prog_18_method_10_code, exceptionTable := #[], attributes := #[] }
def k6m1 : Method := { name := "coef", desc := "([BI)I", sig := { parameters := [(.array .byte), .int], returnType := some .int }, accessFlags := 2, code := some k6c1 }
/-- com/example/treadle/treadle/LmOtsType -/
def k6 : Class := { plain "com/example/treadle/treadle/LmOtsType" (some 5) with
  accessFlags := 16433
  interfaces := #[]
  cf := some (fileOf pool6 1 #[] #[{ accessFlags := 0, nameIndex := 150, descriptorIndex := 151, attributes := #[] }, { accessFlags := 2, nameIndex := 65, descriptorIndex := 66, attributes := #[] }] 16433 38 #[] #[{ accessFlags := 16409, nameIndex := 5, descriptorIndex := 6, attributes := #[] }, { accessFlags := 16409, nameIndex := 9, descriptorIndex := 6, attributes := #[] }, { accessFlags := 16409, nameIndex := 12, descriptorIndex := 6, attributes := #[] }, { accessFlags := 16409, nameIndex := 15, descriptorIndex := 6, attributes := #[] }, { accessFlags := 16409, nameIndex := 18, descriptorIndex := 6, attributes := #[] }, { accessFlags := 16409, nameIndex := 21, descriptorIndex := 6, attributes := #[] }, { accessFlags := 16409, nameIndex := 24, descriptorIndex := 6, attributes := #[] }, { accessFlags := 16409, nameIndex := 27, descriptorIndex := 6, attributes := #[] }, { accessFlags := 18, nameIndex := 49, descriptorIndex := 50, attributes := #[] }, { accessFlags := 18, nameIndex := 53, descriptorIndex := 50, attributes := #[] }, { accessFlags := 18, nameIndex := 56, descriptorIndex := 50, attributes := #[] }, { accessFlags := 18, nameIndex := 59, descriptorIndex := 50, attributes := #[] }, { accessFlags := 18, nameIndex := 62, descriptorIndex := 50, attributes := #[] }, { accessFlags := 4122, nameIndex := 30, descriptorIndex := 31, attributes := #[] }])
  fields := #[{ name := "LMOTS_SHA256_N32_W1", type := (.object "com/example/treadle/treadle/LmOtsType"), accessFlags := 16409, slot := 0, constantValue := 0 }, { name := "LMOTS_SHA256_N32_W2", type := (.object "com/example/treadle/treadle/LmOtsType"), accessFlags := 16409, slot := 1, constantValue := 0 }, { name := "LMOTS_SHA256_N32_W4", type := (.object "com/example/treadle/treadle/LmOtsType"), accessFlags := 16409, slot := 2, constantValue := 0 }, { name := "LMOTS_SHA256_N32_W8", type := (.object "com/example/treadle/treadle/LmOtsType"), accessFlags := 16409, slot := 3, constantValue := 0 }, { name := "LMOTS_SHA256_N24_W1", type := (.object "com/example/treadle/treadle/LmOtsType"), accessFlags := 16409, slot := 4, constantValue := 0 }, { name := "LMOTS_SHA256_N24_W2", type := (.object "com/example/treadle/treadle/LmOtsType"), accessFlags := 16409, slot := 5, constantValue := 0 }, { name := "LMOTS_SHA256_N24_W4", type := (.object "com/example/treadle/treadle/LmOtsType"), accessFlags := 16409, slot := 6, constantValue := 0 }, { name := "LMOTS_SHA256_N24_W8", type := (.object "com/example/treadle/treadle/LmOtsType"), accessFlags := 16409, slot := 7, constantValue := 0 }, { name := "code", type := .int, accessFlags := 18, slot := 3, constantValue := 0 }, { name := "n", type := .int, accessFlags := 18, slot := 4, constantValue := 0 }, { name := "w", type := .int, accessFlags := 18, slot := 5, constantValue := 0 }, { name := "p", type := .int, accessFlags := 18, slot := 6, constantValue := 0 }, { name := "ls", type := .int, accessFlags := 18, slot := 7, constantValue := 0 }, { name := "$VALUES", type := (.array (.object "com/example/treadle/treadle/LmOtsType")), accessFlags := 4122, slot := 8, constantValue := 0 }]
  methods := #[k6m0, k6m1]
  instanceTypes := #[(.object "java/lang/String"), .int, .int, .int, .int, .int, .int, .int]
  staticTypes := #[(.object "com/example/treadle/treadle/LmOtsType"), (.object "com/example/treadle/treadle/LmOtsType"), (.object "com/example/treadle/treadle/LmOtsType"), (.object "com/example/treadle/treadle/LmOtsType"), (.object "com/example/treadle/treadle/LmOtsType"), (.object "com/example/treadle/treadle/LmOtsType"), (.object "com/example/treadle/treadle/LmOtsType"), (.object "com/example/treadle/treadle/LmOtsType"), (.array (.object "com/example/treadle/treadle/LmOtsType"))]
  resolved := Array.replicate 210 none
  statics := some 0 }

def pool7 : Array CpInfo := pool [(1, u "java/lang/Cloneable"), (0, .class_ 1), (0, u "java/lang/Object"), (0, .class_ 3)] 3

/-- java/lang/Cloneable -/
def k7 : Class := { plain "java/lang/Cloneable" (some 0) with
  accessFlags := 1537
  interfaces := #[]
  cf := some (fileOf pool7 2 #[] #[] 1537 4 #[] #[])
  fields := #[]
  methods := #[]
  instanceTypes := #[]
  staticTypes := #[]
  resolved := Array.replicate 8 none
  statics := none }

/-- the primitive byte -/
def k8 : Class := { plain "byte" none with kind := .primitive 'B', accessFlags := 0x411 }
/-- [B -/
def k9 : Class := { plain "[B" (some 0) with kind := .array 8 .byte, interfaces := #[7, 4], accessFlags := 1041 }

/-- the primitive int -/
def k10 : Class := { plain "int" none with kind := .primitive 'I', accessFlags := 0x411 }
/-- [I -/
def k11 : Class := { plain "[I" (some 0) with kind := .array 10 .int, interfaces := #[7, 4], accessFlags := 1041 }

def heap : Heap := #[{ cls := 6, slots := #[.ref 1, .ref 2, .ref 3, .ref 4, .ref 5, .ref 6, .ref 7, .ref 8, .null], vm := .statics 6 },
  { cls := 6, slots := #[.null, .int 0, .int 0, .int 0, .int 32, .int 1, .int 265, .int 7], vm := .none },
  { cls := 6, slots := #[.null, .int 1, .int 0, .int 0, .int 32, .int 2, .int 133, .int 6], vm := .none },
  { cls := 6, slots := #[.null, .int 2, .int 0, .int 0, .int 32, .int 4, .int 67, .int 4], vm := .none },
  { cls := 6, slots := #[.null, .int 3, .int 0, .int 0, .int 32, .int 8, .int 34, .int 0], vm := .none },
  { cls := 6, slots := #[.null, .int 4, .int 0, .int 0, .int 24, .int 1, .int 200, .int 8], vm := .none },
  { cls := 6, slots := #[.null, .int 5, .int 0, .int 0, .int 24, .int 2, .int 101, .int 6], vm := .none },
  { cls := 6, slots := #[.null, .int 6, .int 0, .int 0, .int 24, .int 4, .int 51, .int 4], vm := .none },
  { cls := 6, slots := #[.null, .int 7, .int 0, .int 0, .int 24, .int 8, .int 26, .int 0], vm := .none }]
def classes : Array Class := #[k0, k1, k2, k3, k4, k5, k6, k7, k8, k9, k10, k11]
def interned : List (Array UInt16 × Addr) := []
def slotsUsed : Nat := 73
def theMethod : MethodId := ⟨1, 4⟩
def args0 : Array Value := #[.long 5, .long 7, .long 9, .long 11, .int 2, .int 3]
def aboutOver (below : List Frame) : State where
  vm := { classes := classes, interned := interned.toArray }
  heap := heap
  slotsUsed := slotsUsed
  threads := #[{ frames := .invoking theMethod args0 :: below }]
def below0 : List Frame := [.native { method := ⟨0, 0⟩, args := #[] }]
def about1 : State := aboutOver below0
def p0 : Program := .bare "" "" ""
def e0 : Env := launch0.env 0 0 0
theorem w_frames : about1.frames = Frame.invoking theMethod args0 :: below0 := rfl
set_option maxRecDepth 65536 in
theorem w_args : argsFit about1.vm theMethod args0 = true := by decide +kernel
set_option maxRecDepth 65536 in
theorem w_heap : heapFits about1 = true := by decide +kernel
set_option maxRecDepth 65536 in
theorem w_runnable : about1.curStatus? = some .runnable := by decide +kernel
set_option maxRecDepth 65536 in
theorem w_alone : about1.alone = true := by decide +kernel
set_option maxRecDepth 65536 in
theorem w_named : about1.methodNamed? x = some theMethod := by decide +kernel
set_option maxRecDepth 65536 in
theorem w_hears : about1.hears theMethod below0 = true := by decide +kernel
set_option maxRecDepth 65536 in
theorem w_ripe : about1.ripe theMethod args0 below0 = true := by decide +kernel
theorem w_running : about1.status = .running := rfl
set_option maxRecDepth 65536 in
theorem w_room : about1.hasRoom e0.platform room_1 = true :=
  launch0.hasRoom_least _ room_1 (by decide +kernel) (by decide +kernel) (by decide +kernel) (by decide +kernel) (by decide +kernel) (by decide +kernel)
theorem allAtoms_all (ts : List Jvm.Cond) (a : Array Jvm.Value) (st : Jvm.State) : (allAtoms ts).before a st = ts.all (fun c => c.before a st) := by
  induction ts with
  | nil => rfl
  | cons c t ih =>
    show (Jvm.Cond.and c (allAtoms t)).before a st = _
    rw [Jvm.Cond.before_and, ih, List.all_cons]
def words1 : List Jvm.Cond := Jvm.Cond.code x code maxLocals ret :: tables_1
/-- a 'code' word, met by the world's own term for the bytes: nothing is compared byte by byte -/
theorem code_word {y : MethodName} {bytes : ByteArray} {mx : Nat} {rt : Option FieldType} {a : Array Value} {s : State} {m : MethodId} {meth : Method} {c : Code} (h1 : s.methodNamed? y = some m) (h2 : s.vm.method? m = some meth) (h3 : meth.code = some c) (h4 : c.code = bytes)
    (h5 : (c.maxLocals == mx && c.exceptionTable.isEmpty && decide (c.maxStack ≤ mostOperands) && decide (meth.sig.returnType = rt) && !meth.locks && decide (parseMethodDescriptor y.desc = some meth.sig)) = true) : (Jvm.Cond.code y bytes mx rt).before a s = true := by
  simp only [Bool.and_eq_true, beq_iff_eq, Bool.not_eq_true', decide_eq_true_eq] at h5
  obtain ⟨⟨⟨⟨⟨g1, g2⟩, g3⟩, g4⟩, g5⟩, g6⟩ := h5
  simp [Cond.before, Cond.holds, Cond.value, h1, h2, h3, h4, g1, g2, g3, g4, g5, g6]
def isCode : Jvm.Cond → Bool
  | .code _ _ _ _ => true
  | _ => false
theorem all_split {L : List Jvm.Cond} {P : Jvm.Cond → Bool} (h1 : L.all (fun c => isCode c || P c) = true) (h2 : ∀ c ∈ L.filter isCode, P c = true) : L.all P = true := by
  refine List.all_eq_true.mpr fun c hc => ?_
  have h := List.all_eq_true.mp h1 c hc
  rcases Bool.eq_false_or_eq_true (isCode c) with hi | hi
  · exact h2 c (List.mem_filter.mpr ⟨hc, hi⟩)
  · simpa [hi] using h
set_option maxRecDepth 65536 in
theorem w_c0 : (Jvm.Cond.code x code maxLocals ret).before args0 about1 = true := code_word (m := ⟨1, 4⟩) (meth := k1m4) (c := k1c4) (by decide +kernel) rfl rfl rfl (by decide +kernel)
set_option maxRecDepth 65536 in
theorem w_c1 : (Jvm.Cond.code ({ cls := "com/example/treadle/treadle/LmOtsTypeCoefficientsPinLaw", name := "put", desc := "([BIJ)V" } : Jvm.MethodName) method_2_code (4 : Nat) (Option.none : Option Jvm.ClassFile.FieldType)).before args0 about1 = true := code_word (m := ⟨1, 1⟩) (meth := k1m1) (c := k1c1) (by decide +kernel) rfl rfl rfl (by decide +kernel)
set_option maxRecDepth 65536 in
theorem w_c2 : (Jvm.Cond.code ({ cls := "com/example/treadle/treadle/LmOtsType", name := "coefficients", desc := "([B)[I" } : Jvm.MethodName) prog_18_method_9_code (8 : Nat) (Option.some (Jvm.ClassFile.FieldType.array Jvm.ClassFile.FieldType.int))).before args0 about1 = true := code_word (m := ⟨6, 0⟩) (meth := k6m0) (c := k6c0) (by decide +kernel) rfl rfl rfl (by decide +kernel)
set_option maxRecDepth 65536 in
theorem w_c3 : (Jvm.Cond.code ({ cls := "com/example/treadle/treadle/LmOtsType", name := "coef", desc := "([BI)I" } : Jvm.MethodName) prog_18_method_10_code (4 : Nat) (Option.some Jvm.ClassFile.FieldType.int)).before args0 about1 = true := code_word (m := ⟨6, 1⟩) (meth := k6m1) (c := k6c1) (by decide +kernel) rfl rfl rfl (by decide +kernel)
set_option maxRecDepth 65536 in
theorem w_c4 : (Jvm.Cond.code ({ cls := "com/example/treadle/treadle/LmOtsTypeCoefficientsPinLaw", name := "fieldSum", desc := "(JI)I" } : Jvm.MethodName) method_3_code (5 : Nat) (Option.some Jvm.ClassFile.FieldType.int)).before args0 about1 = true := code_word (m := ⟨1, 2⟩) (meth := k1m2) (c := k1c2) (by decide +kernel) rfl rfl rfl (by decide +kernel)
set_option maxRecDepth 65536 in
theorem w_c5 : (Jvm.Cond.code ({ cls := "com/example/treadle/treadle/LmOtsTypeCoefficientsPinLaw", name := "expected", desc := "(JJJJIIIII)I" } : Jvm.MethodName) method_4_code (17 : Nat) (Option.some Jvm.ClassFile.FieldType.int)).before args0 about1 = true := code_word (m := ⟨1, 3⟩) (meth := k1m3) (c := k1c3) (by decide +kernel) rfl rfl rfl (by decide +kernel)
def codes1 : List Jvm.Cond := [Jvm.Cond.code x code maxLocals ret, Jvm.Cond.code ({ cls := "com/example/treadle/treadle/LmOtsTypeCoefficientsPinLaw", name := "put", desc := "([BIJ)V" } : Jvm.MethodName) method_2_code (4 : Nat) (Option.none : Option Jvm.ClassFile.FieldType), Jvm.Cond.code ({ cls := "com/example/treadle/treadle/LmOtsType", name := "coefficients", desc := "([B)[I" } : Jvm.MethodName) prog_18_method_9_code (8 : Nat) (Option.some (Jvm.ClassFile.FieldType.array Jvm.ClassFile.FieldType.int)), Jvm.Cond.code ({ cls := "com/example/treadle/treadle/LmOtsType", name := "coef", desc := "([BI)I" } : Jvm.MethodName) prog_18_method_10_code (4 : Nat) (Option.some Jvm.ClassFile.FieldType.int), Jvm.Cond.code ({ cls := "com/example/treadle/treadle/LmOtsTypeCoefficientsPinLaw", name := "fieldSum", desc := "(JI)I" } : Jvm.MethodName) method_3_code (5 : Nat) (Option.some Jvm.ClassFile.FieldType.int), Jvm.Cond.code ({ cls := "com/example/treadle/treadle/LmOtsTypeCoefficientsPinLaw", name := "expected", desc := "(JJJJIIIII)I" } : Jvm.MethodName) method_4_code (17 : Nat) (Option.some Jvm.ClassFile.FieldType.int)]
set_option maxRecDepth 65536 in
theorem codes_eq : words1.filter isCode = codes1 := rfl
theorem w_codes : ∀ c ∈ words1.filter isCode, c.before args0 about1 = true := by
  rw [codes_eq]
  intro c hc
  simp only [codes1, List.mem_cons, List.not_mem_nil, or_false] at hc
  rcases hc with rfl | rfl | rfl | rfl | rfl | rfl
  · exact w_c0
  · exact w_c1
  · exact w_c2
  · exact w_c3
  · exact w_c4
  · exact w_c5
set_option maxRecDepth 65536 in
theorem w_t1 : (words1.take 24).all (fun c => isCode c || c.before args0 about1) = true := by decide +kernel
set_option maxRecDepth 65536 in
theorem w_t2 : ((words1.drop 24).take 24).all (fun c => isCode c || c.before args0 about1) = true := by decide +kernel
set_option maxRecDepth 65536 in
theorem w_t3 : ((words1.drop 24).drop 24).all (fun c => isCode c || c.before args0 about1) = true := by decide +kernel
theorem w_tables : (allAtoms (Jvm.Cond.code x code maxLocals ret :: tables_1)).before args0 about1 = true := by
  rw [allAtoms_all]
  show words1.all (fun c => c.before args0 about1) = true
  refine all_split ?_ w_codes
  rw [← List.take_append_drop 24 words1, List.all_append, w_t1, ← List.take_append_drop 24 (words1.drop 24), List.all_append, w_t2, w_t3]
  rfl
set_option maxRecDepth 65536 in
theorem w_case : (Jvm.Cond.and given_1 narrow_1).before args0 about1 = true := by decide +kernel
theorem w_applies : (headSpec (Jvm.Cond.code x code maxLocals ret :: tables_1) room_1).applies x e0.platform about1 = true :=
  (Spec.applies_iff w_frames).mpr ⟨w_running, w_runnable, w_alone, w_named, w_hears, w_ripe, w_room, w_tables⟩
theorem atStart : AtStart classFile x code maxLocals ret World_1 tables_1 room_1 Calls_1 rest_1 Pre_1 launch0 p0 e0 about1 theMethod args0 below0 :=
  ⟨lists_1, trivial, launch0.admits_env _ _ _, launch0.least_env, fairChoices_fair.cas, fairChoices_fair.clock, w_frames, w_args, w_heap, w_applies, trivial, trivial, w_case⟩
end start1
theorem witness_1 : WitnessClaimed_1 := ⟨start1.p0, start1.e0, start1.about1, start1.theMethod, start1.args0, start1.below0, start1.atStart⟩
end Jvm.Pilot.@@N@@
