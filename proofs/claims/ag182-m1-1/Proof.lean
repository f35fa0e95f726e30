import JvmDerived
import JvmDerived.Pilot.@@N@@Statement
import JvmDerived.Pilot.@@N@@Code
set_option linter.unusedVariables false
set_option linter.unusedSimpArgs false
namespace Own
open Jvm Jvm.ClassFile Sem Op Lib Jvm.Stand Jvm.Free Jvm.LawKit Jvm.RoadKit
def Fin (p : Program) (e : Env) (below : List Frame) (G : State) (Q : Outcome → State → Prop) : Prop :=
  ∃ s₂ o, Steps p.tables e below G s₂ ∧ s₂.status = .running ∧ Ended s₂ below o ∧ Q o s₂
def Post (s : State) (K : Option Value → Heap → List Loc → Prop) (cc ss : Nat) (o : Outcome) (U : State) : Prop :=
  ∃ v L, o = .returned v ∧ K v U.heap L ∧ FrameEnd s o U L cc ss
theorem go {p : Program} {e : Env} {below : List Frame} {G G' : State} {Q : Outcome → State → Prop} (h : ∀ t, Steps p.tables e below G' t → Steps p.tables e below G t) (k : Fin p e below G' Q) : Fin p e below G Q := by
  obtain ⟨s₂, o, h1, h2⟩ := k
  exact ⟨s₂, o, h _ h1, h2⟩
theorem start {p : Program} {e : Env} {below : List Frame} {T : State} {g g' : JFrame} {Q : Outcome → State → Prop} (q : g = g') (k : Fin p e below (T.setTop g') Q) : Fin p e below (T.setTop g) Q := q ▸ k
theorem clamp_lt {j z : Int32} {n : Nat} (hj : ¬ j < 0 ∧ j < z) (hz : z.toNatClampNeg = n) : j.toNatClampNeg < n := by
  subst hz
  have h1 := hj.1; have h2 := hj.2
  rw [Int32.lt_iff_toInt_lt] at h1 h2
  have h0 : (0 : Int32).toInt = 0 := by decide
  rw [h0] at h1
  show j.toInt.toNat < z.toInt.toNat
  omega
section A
variable {p : Program} {l : Launch} {e : Env} {R : Room} {s : State} {m : MethodId} {args : Array Value} {below : List Frame} {meth : Method} {c : Code} {T : State} {locs : List Loc} {cells slots : Nat}
theorem retAny (X : Stand p l e R s m args below meth c T locs cells slots) {v : Option Value} (hlk : meth.locks = false) (hv : meth.sig.returnType = none → v = none) {g : JFrame}
    (hstep : ∀ fs, (∀ (f : JFrame) (acts : List Action), f.method = m → f.locked = none → f.entered = [] → (doReturn e (T.setTop f) acts v).1 = T.setFrames fs) → Steps p.tables e below (T.setTop g) (T.setFrames fs))
    {K : Option Value → Heap → List Loc → Prop} {cc ss : Nat} (hc : cells ≤ cc) (hs : slots ≤ ss) (hk : K v T.heap locs) : Fin p e below (T.setTop g) (Post s K cc ss) := by
  obtain ⟨fs, hr, hrun, hended, hW, hsame⟩ := X.leave (v := v) hv hlk
  exact ⟨_, _, hstep fs hr, hrun, hended, _, _, rfl, hk, ⟨_, rfl⟩, hW, hsame.mono hc hs⟩
theorem retI (X : Stand p l e R s m args below meth c T locs cells slots) (hx : p.tables.exec = Jvm.exec) (hlk : meth.locks = false) (hret : meth.sig.returnType = some .int) {pc : Nat} {Ls : Array Slot} {z : Int32} {rest : List Value} (hd : decode c.code pc = .ok (.ireturn, 1))
    {K : Option Value → Heap → List Loc → Prop} {cc ss : Nat} (hc : cells ≤ cc) (hs : slots ≤ ss) (hk : K (some (.int z)) T.heap locs) : Fin p e below (T.setTop (mkF m pc Ls (.int z :: rest))) (Post s K cc ss) := by
  refine retAny X (v := some (.int z)) hlk (fun h => by rw [hret] at h; cases h) (fun fs hl => ?_) hc hs hk
  have hm' : T.vm.method? m = some meth := X.method'
  have hn : narrow .int (.int z) = .int z := rfl
  show Steps p.tables e below (T.setTop { method := m, pc := pc, locals := Ls, stack := _ :: rest, locked := none }) _
  jvm_step X.here [X.here.top, hx, hd, hm', hret, hn]
  first | (intro acts; rw [hl _ acts rfl rfl rfl]) | rw [hl _ _ rfl rfl rfl]
  exact Steps.refl _
theorem retN (X : Stand p l e R s m args below meth c T locs cells slots) (hx : p.tables.exec = Jvm.exec) (hlk : meth.locks = false) {t : FieldType} (hret : meth.sig.returnType = some t) (ht : t = .boolean ∨ t = .byte ∨ t = .char ∨ t = .short) {pc : Nat} {Ls : Array Slot} {z : Int32} {rest : List Value} (hd : decode c.code pc = .ok (.ireturn, 1))
    {K : Option Value → Heap → List Loc → Prop} {cc ss : Nat} (hc : cells ≤ cc) (hs : slots ≤ ss) (hk : K (some (.int (nar t z))) T.heap locs) : Fin p e below (T.setTop (mkF m pc Ls (.int z :: rest))) (Post s K cc ss) :=
  retAny X (v := some (.int (nar t z))) hlk (fun h => by rw [hret] at h; cases h) (fun fs hl => RoadKit.retN X hx hret ht hd hl) hc hs hk
theorem retJ (X : Stand p l e R s m args below meth c T locs cells slots) (hx : p.tables.exec = Jvm.exec) (hlk : meth.locks = false) (hret : meth.sig.returnType = some .long) {pc : Nat} {Ls : Array Slot} {z : Int64} {rest : List Value} (hd : decode c.code pc = .ok (.lreturn, 1))
    {K : Option Value → Heap → List Loc → Prop} {cc ss : Nat} (hc : cells ≤ cc) (hs : slots ≤ ss) (hk : K (some (.long z)) T.heap locs) : Fin p e below (T.setTop (mkF m pc Ls (.long z :: rest))) (Post s K cc ss) := by
  refine retAny X (v := some (.long z)) hlk (fun h => by rw [hret] at h; cases h) (fun fs hl => ?_) hc hs hk
  have hm' : T.vm.method? m = some meth := X.method'
  show Steps p.tables e below (T.setTop { method := m, pc := pc, locals := Ls, stack := _ :: rest, locked := none }) _
  jvm_step X.here [X.here.top, hx, hd, hm', hret, narrow]
  first | (intro acts; rw [hl _ acts rfl rfl rfl]) | rw [hl _ _ rfl rfl rfl]
  exact Steps.refl _
theorem retV (X : Stand p l e R s m args below meth c T locs cells slots) (hx : p.tables.exec = Jvm.exec) (hlk : meth.locks = false) (hret : meth.sig.returnType = none) {pc : Nat} {Ls : Array Slot} (hd : decode c.code pc = .ok (.return_, 1))
    {K : Option Value → Heap → List Loc → Prop} {cc ss : Nat} (hc : cells ≤ cc) (hs : slots ≤ ss) (hk : K none T.heap locs) : Fin p e below (T.setTop (mkF m pc Ls [])) (Post s K cc ss) :=
  retAny X (v := none) hlk (fun _ => rfl) (fun fs hl => X.returnOut hx hret hd hl) hc hs hk
theorem cS {Z : State} {a0 : Array Value} {h : Heap} (X : Stand p l e R s m args below meth c T locs cells slots) (hx : p.tables.exec = Jvm.exec) (hZ : Z.Warmed39 s.vm) {own : String} {index : Nat} {y : MethodName} {bytes : ByteArray} {maxL : Nat} {ret : Option FieldType} {rm : Room} {as' : Array Value} {Q : Option Value → Heap → List Loc → Prop}
    (hown : s.vm.findClass own = some m.cls) (w1 : (Cond.methodLink own index y).before a0 Z = true) (w2 : (Cond.static y).before a0 Z = true) (w3 : (Cond.initialized y.cls).before a0 Z = true) (w4 : (Cond.code y bytes maxL ret).before a0 Z = true)
    (hy : y.cls ≠ "java/lang/invoke/MethodHandle" ∧ y.cls ≠ "java/lang/invoke/VarHandle")
    (hM : MetFree l y (head1 [Cond.code y bytes maxL ret] rm) (fun a U => a = as' ∧ Z.Warmed39 U.vm ∧ U.heap = h) (fun _ _ _ _ _ => True) (fun _ U o U' => ∃ v L, o = .returned v ∧ Q v U'.heap L ∧ FrameEnd U o U' L rm.cells rm.slots))
    (hf : rm.frames + 1 ≤ R.frames) {W : Nat} (hl : W + (maxL + 11) + rm.locals ≤ R.locals) {pc : Nat} {ls : Array Slot} {argsL rest : List Value} (hsize : ls.size = c.maxLocals) (hlen : ∀ sig, parseMethodDescriptor y.desc = some sig → argsL.length = sig.parameters.length)
    (has : argsL.toArray = as') (hW : (rest.map fun v => v.category).sum ≤ W) (hd : decode c.code pc = .ok (.invokestatic index, 3)) (eT : T.heap = h) (hcc : cells + rm.cells ≤ R.cells) (hss : slots + rm.slots ≤ R.slots) {P : Outcome → State → Prop}
    (k : ∀ T' L v, Stand p l e R s m args below meth c T' (locs ++ L) (cells + rm.cells) (slots + rm.slots) → Q v T'.heap L → Fin p e below (T'.setTop (mkF m (pc + 3) ls (v.toList ++ rest))) P) :
    Fin p e below (T.setTop (mkF m pc ls (argsL.reverse ++ rest))) P := by
  obtain ⟨v, _, ⟨T', L', k', n'⟩, -, X', ⟨L, hQ, e1, e2, e3⟩, st⟩ := Jvm.LawKit.callS X hx (y := y) hown (mvT hZ w1) (mvT hZ w2) (mvT hZ w3) (mvT hZ w4) hy (backOf (W := W) hM hZ w4 w3 hf hl) (g := mkF m pc ls (argsL.reverse ++ rest)) rfl hsize (argsL := argsL) (rest := rest) hlen rfl
    (by show 2 * 0 + _ ≤ _; omega) hd (fun _ _ => ⟨has, eT, hcc, hss⟩)
  dsimp only [Pt.U, Pt.locs, Pt.cells, Pt.slots] at X' e1 e2 e3 st hQ
  subst e1 e2 e3
  exact go st (k T' L v X' hQ)
theorem cI {Z : State} {a0 : Array Value} {h : Heap} (X : Stand p l e R s m args below meth c T locs cells slots) (hx : p.tables.exec = Jvm.exec) (hZ : Z.Warmed39 s.vm) {own : String} {index : Nat} {y : MethodName} {bytes : ByteArray} {maxL : Nat} {rm : Room} {as' : Array Value} {Q : Option Value → Heap → List Loc → Prop}
    (hy1 : y.name = "<init>") (hown : s.vm.findClass own = some m.cls) (w1 : (Cond.methodLink own index y).before a0 Z = true) (w2 : (Cond.instanceMethod y).before a0 Z = true) (w3 : (Cond.initialized y.cls).before a0 Z = true) (w4 : (Cond.code y bytes maxL none).before a0 Z = true)
    (hy : y.cls ≠ "java/lang/invoke/MethodHandle" ∧ y.cls ≠ "java/lang/invoke/VarHandle")
    (hM : MetFree l y (head1 [Cond.code y bytes maxL none] rm) (fun a U => a = as' ∧ Z.Warmed39 U.vm ∧ U.heap = h) (fun _ _ _ _ _ => True) (fun _ U o U' => ∃ v L, o = .returned v ∧ Q v U'.heap L ∧ FrameEnd U o U' L rm.cells rm.slots))
    (hf : rm.frames + 1 ≤ R.frames) {W : Nat} (hl : W + (maxL + 11) + rm.locals ≤ R.locals) {pc : Nat} {ls : Array Slot} {a : Addr} {argsL rest : List Value} (hsize : ls.size = c.maxLocals) (hlen : ∀ sig, parseMethodDescriptor y.desc = some sig → argsL.length = sig.parameters.length)
    (has : (Value.ref a :: argsL).toArray = as') (hW : (rest.map fun v => v.category).sum ≤ W) (hd : decode c.code pc = .ok (.invokespecial index, 3)) (eT : T.heap = h) (hcc : cells + rm.cells ≤ R.cells) (hss : slots + rm.slots ≤ R.slots) {P : Outcome → State → Prop}
    (k : ∀ T' L v, Stand p l e R s m args below meth c T' (locs ++ L) (cells + rm.cells) (slots + rm.slots) → Q v T'.heap L → Fin p e below (T'.setTop (mkF m (pc + 3) ls (v.toList ++ rest))) P) :
    Fin p e below (T.setTop (mkF m pc ls (argsL.reverse ++ .ref a :: rest))) P := by
  obtain ⟨v, _, ⟨T', L', k', n'⟩, -, X', ⟨L, hQ, e1, e2, e3⟩, st⟩ := X.specialBack hx (y := y) hy1 hown (mvT hZ w1) (mvT hZ w2) (mvT hZ w4) hy (backOf (W := W) hM hZ w4 w3 hf hl) (g := mkF m pc ls (argsL.reverse ++ .ref a :: rest)) rfl hsize (Steps.refl _) (a := a) (argsL := argsL) (rest := rest) hlen rfl
    (by show 2 * 0 + _ ≤ _; omega) hd (fun _ _ => ⟨has, eT, hcc, hss⟩)
  dsimp only [Pt.U, Pt.locs, Pt.cells, Pt.slots] at X' e1 e2 e3 st hQ
  subst e1 e2 e3
  exact go (fun t kt => st.trans kt) (k T' L v X' hQ)
theorem cV {Z : State} {a0 : Array Value} {h : Heap} (X : Stand p l e R s m args below meth c T locs cells slots) (hx : p.tables.exec = Jvm.exec) (hZ : Z.Warmed39 s.vm) {own C : String} {index : Nat} {y z : MethodName} {bytes : ByteArray} {maxL : Nat} {ret : Option FieldType} {rm : Room} {as' : Array Value} {Q : Option Value → Heap → List Loc → Prop}
    (hown : s.vm.findClass own = some m.cls) (w1 : (Cond.methodLink own index y).before a0 Z = true) (w2 : (Cond.declares y).before a0 Z = true) (hnf : NotFace s y) (w5 : (Cond.selects C y z).before a0 Z = true) (w6 : (Cond.instanceMethod z).before a0 Z = true) (w3 : (Cond.initialized z.cls).before a0 Z = true) (w4 : (Cond.code z bytes maxL ret).before a0 Z = true)
    (hy : y.cls ≠ "java/lang/invoke/MethodHandle" ∧ y.cls ≠ "java/lang/invoke/VarHandle")
    (hM : MetFree l z (head1 [Cond.code z bytes maxL ret] rm) (fun a U => a = as' ∧ Z.Warmed39 U.vm ∧ U.heap = h) (fun _ _ _ _ _ => True) (fun _ U o U' => ∃ v L, o = .returned v ∧ Q v U'.heap L ∧ FrameEnd U o U' L rm.cells rm.slots))
    (hf : rm.frames + 1 ≤ R.frames) {W : Nat} (hl : W + (maxL + 11) + rm.locals ≤ R.locals) {pc : Nat} {ls : Array Slot} {a : Addr} {argsL rest : List Value} (E : Exa Z h a C) (hsize : ls.size = c.maxLocals) (hlen : ∀ sig, parseMethodDescriptor y.desc = some sig → argsL.length = sig.parameters.length)
    (has : (Value.ref a :: argsL).toArray = as') (hW : (rest.map fun v => v.category).sum ≤ W) (hd : decode c.code pc = .ok (.invokevirtual index, 3)) (eT : T.heap = h) (hcc : cells + rm.cells ≤ R.cells) (hss : slots + rm.slots ≤ R.slots) {P : Outcome → State → Prop}
    (k : ∀ T' L v, Stand p l e R s m args below meth c T' (locs ++ L) (cells + rm.cells) (slots + rm.slots) → Q v T'.heap L → Fin p e below (T'.setTop (mkF m (pc + 3) ls (v.toList ++ rest))) P) :
    Fin p e below (T.setTop (mkF m pc ls (argsL.reverse ++ .ref a :: rest))) P := by
  obtain ⟨cq, kq, qa, qb, qc⟩ := isOf hZ eT E
  obtain ⟨v, _, ⟨T', L', k', n'⟩, -, X', ⟨L, hQ, e1, e2, e3⟩, st⟩ := X.virtualBack hx (y := y) (z := z) hown (mvT hZ w1) (mvT hZ w2) hnf (mvT hZ w5) (mvT hZ w6) hy (backOf (W := W) hM hZ w4 w3 hf hl) qa qc (g := mkF m pc ls (argsL.reverse ++ .ref a :: rest)) rfl hsize (Steps.refl _) (argsL := argsL) (rest := rest) hlen rfl
    (by show 2 * 0 + _ ≤ _; omega) hd (fun _ _ => ⟨has, eT, hcc, hss⟩)
  dsimp only [Pt.U, Pt.locs, Pt.cells, Pt.slots] at X' e1 e2 e3 st hQ
  subst e1 e2 e3
  exact go (fun t kt => st.trans kt) (k T' L v X' hQ)
theorem newA {Z : State} {a0 : Array Value} {h : Heap} (X : Stand p l e R s m args below meth c T locs cells slots) (hx : p.tables.exec = Jvm.exec) (hZ : Z.Warmed39 s.vm) {aty : ArrayType} (w : (Cond.arrayClass (newarray.typeOf aty)).before a0 Z = true) (eT : T.heap = h)
    {pc : Nat} {ls : Array Slot} {n : Int32} {rest : List Value} (hd : decode c.code pc = .ok (.newarray aty, 2)) (hn : ¬ n < 0) (cap : Nat) (hcap : n.toNatClampNeg ≤ cap) (hb : cap * 8 ≤ 536870912) (hc : cells + 1 ≤ R.cells) (hl : slots + cap ≤ R.slots) {P : Outcome → State → Prop}
    (k : ∀ T' h' b kA, Stand p l e R s m args below meth c T' locs (cells + 1) (slots + cap) → T'.heap = h' → Ext h h' → b = h.size → Arv Z h' b kA (newarray.typeOf aty) n [] (defaultValue (newarray.typeOf aty)) → Fin p e below (T'.setTop (mkF m (pc + 2) ls (.ref b :: rest))) P) :
    Fin p e below (T.setTop (mkF m pc ls (.int n :: rest))) P := by
  obtain ⟨T', h', kA, X', e', E', A', st⟩ := newP X hx hZ w eT (g := mkF m pc ls (.int n :: rest)) rfl hd rfl hn hcap hb hc hl
  exact go st (k T' h' _ kA X' e' E' rfl (Arv.new A' hn))
theorem stI {Z : State} {h : Heap} {a : Addr} {kA : ClassId} {z : Int32} {vs : List Value} {dv : Value} (X : Stand p l e R s m args below meth c T locs cells slots) (hx : p.tables.exec = Jvm.exec) (hZ : Z.Warmed39 s.vm) (eT : T.heap = h) (V : Arv Z h a kA .int z vs dv)
    {pc : Nat} {ls : Array Slot} {j x : Int32} {rest : List Value} (hd : decode c.code pc = .ok (.iastore, 1)) (hj : ¬ j < 0 ∧ j < z) (i : Nat) (hi : j.toNatClampNeg = i) (hlen : i < vs.length) {P : Outcome → State → Prop}
    (k : ∀ T' h', Stand p l e R s m args below meth c T' (locs ++ [⟨a, j.toNatClampNeg⟩]) cells slots → T'.heap = h' → Wr h h' a j.toNatClampNeg (.int x) → Arv Z h' a kA .int z (vs.set i (.int x)) dv → Fin p e below (T'.setTop (mkF m (pc + 1) ls rest)) P) :
    Fin p e below (T.setTop (mkF m pc ls (.int x :: .int j :: .ref a :: rest))) P := by
  obtain ⟨cl, Ar, q, S, N, H, G⟩ := V
  obtain ⟨T', h', X', e', W', st⟩ := RoadKit.stI X hx hZ eT Ar (j := j) (inb_of S hj) (g := mkF m pc ls (.int x :: .int j :: .ref a :: rest)) rfl rfl hd
  exact go st (k T' h' X' e' W' (Arv.set Ar q S N H G rfl W' i hi hlen))
theorem stJ {Z : State} {h : Heap} {a : Addr} {kA : ClassId} {z : Int32} {vs : List Value} {dv : Value} (X : Stand p l e R s m args below meth c T locs cells slots) (hx : p.tables.exec = Jvm.exec) (hZ : Z.Warmed39 s.vm) (eT : T.heap = h) (V : Arv Z h a kA .long z vs dv)
    {pc : Nat} {ls : Array Slot} {j : Int32} {x : Int64} {rest : List Value} (hd : decode c.code pc = .ok (.lastore, 1)) (hj : ¬ j < 0 ∧ j < z) (i : Nat) (hi : j.toNatClampNeg = i) (hlen : i < vs.length) {P : Outcome → State → Prop}
    (k : ∀ T' h', Stand p l e R s m args below meth c T' (locs ++ [⟨a, j.toNatClampNeg⟩]) cells slots → T'.heap = h' → Wr h h' a j.toNatClampNeg (.long x) → Arv Z h' a kA .long z (vs.set i (.long x)) dv → Fin p e below (T'.setTop (mkF m (pc + 1) ls rest)) P) :
    Fin p e below (T.setTop (mkF m pc ls (.long x :: .int j :: .ref a :: rest))) P := by
  obtain ⟨cl, Ar, q, S, N, H, G⟩ := V
  obtain ⟨T', h', X', e', W', st⟩ := RoadKit.stJ X hx hZ eT Ar (j := j) (inb_of S hj) (g := mkF m pc ls (.long x :: .int j :: .ref a :: rest)) rfl rfl hd
  exact go st (k T' h' X' e' W' (Arv.set Ar q S N H G rfl W' i hi hlen))
theorem stB {Z : State} {h : Heap} {a : Addr} {kA : ClassId} {z : Int32} {vs : List Value} {dv : Value} (X : Stand p l e R s m args below meth c T locs cells slots) (hx : p.tables.exec = Jvm.exec) (hZ : Z.Warmed39 s.vm) (eT : T.heap = h) (V : Arv Z h a kA .byte z vs dv)
    {pc : Nat} {ls : Array Slot} {j x : Int32} {rest : List Value} (hd : decode c.code pc = .ok (.bastore, 1)) (hj : ¬ j < 0 ∧ j < z) (i : Nat) (hi : j.toNatClampNeg = i) (hlen : i < vs.length) {P : Outcome → State → Prop}
    (k : ∀ T' h', Stand p l e R s m args below meth c T' (locs ++ [⟨a, j.toNatClampNeg⟩]) cells slots → T'.heap = h' → Wr h h' a j.toNatClampNeg (.int (nar .byte x)) → Arv Z h' a kA .byte z (vs.set i (.int (nar .byte x))) dv → Fin p e below (T'.setTop (mkF m (pc + 1) ls rest)) P) :
    Fin p e below (T.setTop (mkF m pc ls (.int x :: .int j :: .ref a :: rest))) P := by
  obtain ⟨cl, Ar, q, S, N, H, G⟩ := V
  obtain ⟨T', h', X', e', W', st⟩ := RoadKit.stB X hx hZ eT Ar (j := j) (inb_of S hj) (g := mkF m pc ls (.int x :: .int j :: .ref a :: rest)) rfl rfl hd
  exact go st (k T' h' X' e' W' (Arv.set Ar q S N H G (fits_nar_byte _) W' i hi hlen))
theorem stC {Z : State} {h : Heap} {a : Addr} {kA : ClassId} {z : Int32} {vs : List Value} {dv : Value} (X : Stand p l e R s m args below meth c T locs cells slots) (hx : p.tables.exec = Jvm.exec) (hZ : Z.Warmed39 s.vm) (eT : T.heap = h) (V : Arv Z h a kA .char z vs dv)
    {pc : Nat} {ls : Array Slot} {j x : Int32} {rest : List Value} (hd : decode c.code pc = .ok (.castore, 1)) (hj : ¬ j < 0 ∧ j < z) (i : Nat) (hi : j.toNatClampNeg = i) (hlen : i < vs.length) {P : Outcome → State → Prop}
    (k : ∀ T' h', Stand p l e R s m args below meth c T' (locs ++ [⟨a, j.toNatClampNeg⟩]) cells slots → T'.heap = h' → Wr h h' a j.toNatClampNeg (.int (nar .char x)) → Arv Z h' a kA .char z (vs.set i (.int (nar .char x))) dv → Fin p e below (T'.setTop (mkF m (pc + 1) ls rest)) P) :
    Fin p e below (T.setTop (mkF m pc ls (.int x :: .int j :: .ref a :: rest))) P := by
  obtain ⟨cl, Ar, q, S, N, H, G⟩ := V
  obtain ⟨T', h', X', e', W', st⟩ := RoadKit.stC X hx hZ eT Ar (j := j) (inb_of S hj) (g := mkF m pc ls (.int x :: .int j :: .ref a :: rest)) rfl rfl hd
  exact go st (k T' h' X' e' W' (Arv.set Ar q S N H G (fits_nar_char _) W' i hi hlen))
theorem alen {Z : State} {h : Heap} {a : Addr} {kA : ClassId} {ty : FieldType} {z : Int32} {vs : List Value} {dv : Value} (X : Stand p l e R s m args below meth c T locs cells slots) (hx : p.tables.exec = Jvm.exec) (hZ : Z.Warmed39 s.vm) (eT : T.heap = h) (V : Arv Z h a kA ty z vs dv)
    {pc : Nat} {ls : Array Slot} {rest : List Value} (hd : decode c.code pc = .ok (.arraylength, 1)) {P : Outcome → State → Prop} (k : Fin p e below (T.setTop (mkF m (pc + 1) ls (.int z :: rest))) P) :
    Fin p e below (T.setTop (mkF m pc ls (.ref a :: rest))) P := by
  obtain ⟨cl, Ar, q, S, N, H, G⟩ := V
  refine go (fun t kt => X.arraylength hx (by rw [eT]; exact Ar.1) (State.isArrayOf_alike hZ.alike Ar.2.1) (g := mkF m pc ls (.ref a :: rest)) rfl rfl hd t kt) ?_
  rw [len_of S N]
  exact k
theorem arv_at {Z : State} {h : Heap} {a : Addr} {kA : ClassId} {ty : FieldType} {z : Int32} {vs : List Value} {dv : Value} (V : Arv Z h a kA ty z vs dv) {j : Int32} (hj : ¬ j < 0 ∧ j < z) :
    ∃ cl, Arr Z h a cl ty ∧ ¬ (j < 0 ∨ cl.slots.size ≤ j.toNatClampNeg) ∧ cl.slots[j.toNatClampNeg]? = some (vs.getD j.toNatClampNeg dv) ∧ fits ty (vs.getD j.toNatClampNeg dv) = true := by
  obtain ⟨cl, Ar, q, S, N, H, G⟩ := V
  have hin := inb_of S hj
  have hlt : j.toNatClampNeg < cl.slots.size := Nat.lt_of_not_le fun q => hin (Or.inr q)
  exact ⟨cl, Ar, hin, H _ hlt, G _ hlt⟩
theorem ldI {Z : State} {h : Heap} {a : Addr} {kA : ClassId} {z : Int32} {vs : List Value} {dv : Value} (X : Stand p l e R s m args below meth c T locs cells slots) (hx : p.tables.exec = Jvm.exec) (hZ : Z.Warmed39 s.vm) (eT : T.heap = h) (V : Arv Z h a kA .int z vs dv)
    {pc : Nat} {ls : Array Slot} {j : Int32} {rest : List Value} (hd : decode c.code pc = .ok (.iaload, 1)) (hj : ¬ j < 0 ∧ j < z) {P : Outcome → State → Prop} (k : ∀ x, vs.getD j.toNatClampNeg dv = .int x → Fin p e below (T.setTop (mkF m (pc + 1) ls (.int x :: rest))) P) :
    Fin p e below (T.setTop (mkF m pc ls (.int j :: .ref a :: rest))) P := by
  obtain ⟨cl, Ar, hin, hat, hf⟩ := arv_at V hj
  obtain ⟨x, hx'⟩ := fit_I hf (Or.inl rfl)
  refine go (fun t kt => X.iaload hx (j := j) (v := .int x) (by rw [eT]; exact Ar.1) (State.isArrayOf_alike hZ.alike Ar.2.1) Ar.2.2 hin (by rw [hat, hx']) (g := mkF m pc ls (.int j :: .ref a :: rest)) rfl rfl hd t kt) (k x hx')
theorem ldJ {Z : State} {h : Heap} {a : Addr} {kA : ClassId} {z : Int32} {vs : List Value} {dv : Value} (X : Stand p l e R s m args below meth c T locs cells slots) (hx : p.tables.exec = Jvm.exec) (hZ : Z.Warmed39 s.vm) (eT : T.heap = h) (V : Arv Z h a kA .long z vs dv)
    {pc : Nat} {ls : Array Slot} {j : Int32} {rest : List Value} (hd : decode c.code pc = .ok (.laload, 1)) (hj : ¬ j < 0 ∧ j < z) {P : Outcome → State → Prop} (k : ∀ x, vs.getD j.toNatClampNeg dv = .long x → Fin p e below (T.setTop (mkF m (pc + 1) ls (.long x :: rest))) P) :
    Fin p e below (T.setTop (mkF m pc ls (.int j :: .ref a :: rest))) P := by
  obtain ⟨cl, Ar, hin, hat, hf⟩ := arv_at V hj
  obtain ⟨x, hx'⟩ := fit_J hf
  refine go (fun t kt => X.laload hx (j := j) (v := .long x) (by rw [eT]; exact Ar.1) (State.isArrayOf_alike hZ.alike Ar.2.1) Ar.2.2 hin (by rw [hat, hx']) (g := mkF m pc ls (.int j :: .ref a :: rest)) rfl rfl hd t kt) (k x hx')
theorem ldB {Z : State} {h : Heap} {a : Addr} {kA : ClassId} {z : Int32} {vs : List Value} {dv : Value} (X : Stand p l e R s m args below meth c T locs cells slots) (hx : p.tables.exec = Jvm.exec) (hZ : Z.Warmed39 s.vm) (eT : T.heap = h) (V : Arv Z h a kA .byte z vs dv)
    {pc : Nat} {ls : Array Slot} {j : Int32} {rest : List Value} (hd : decode c.code pc = .ok (.baload, 1)) (hj : ¬ j < 0 ∧ j < z) {P : Outcome → State → Prop} (k : ∀ x, vs.getD j.toNatClampNeg dv = .int x → Fin p e below (T.setTop (mkF m (pc + 1) ls (.int x :: rest))) P) :
    Fin p e below (T.setTop (mkF m pc ls (.int j :: .ref a :: rest))) P := by
  obtain ⟨cl, Ar, hin, hat, hf⟩ := arv_at V hj
  obtain ⟨x, hx'⟩ := fit_I hf (Or.inr (Or.inr (Or.inl rfl)))
  refine go (fun t kt => X.baloadBytes hx (j := j) (v := .int x) (by rw [eT]; exact Ar.1) (State.isArrayOf_alike hZ.alike Ar.2.1) Ar.2.2 hin (by rw [hat, hx']) (g := mkF m pc ls (.int j :: .ref a :: rest)) rfl rfl hd t kt) (k x hx')
theorem ldC {Z : State} {h : Heap} {a : Addr} {kA : ClassId} {z : Int32} {vs : List Value} {dv : Value} (X : Stand p l e R s m args below meth c T locs cells slots) (hx : p.tables.exec = Jvm.exec) (hZ : Z.Warmed39 s.vm) (eT : T.heap = h) (V : Arv Z h a kA .char z vs dv)
    {pc : Nat} {ls : Array Slot} {j : Int32} {rest : List Value} (hd : decode c.code pc = .ok (.caload, 1)) (hj : ¬ j < 0 ∧ j < z) {P : Outcome → State → Prop} (k : ∀ x, vs.getD j.toNatClampNeg dv = .int x → Fin p e below (T.setTop (mkF m (pc + 1) ls (.int x :: rest))) P) :
    Fin p e below (T.setTop (mkF m pc ls (.int j :: .ref a :: rest))) P := by
  obtain ⟨cl, Ar, hin, hat, hf⟩ := arv_at V hj
  obtain ⟨x, hx'⟩ := fit_I hf (Or.inr (Or.inr (Or.inr (Or.inl rfl))))
  refine go (fun t kt => X.caload hx (j := j) (v := .int x) (by rw [eT]; exact Ar.1) (State.isArrayOf_alike hZ.alike Ar.2.1) Ar.2.2 hin (by rw [hat, hx']) (g := mkF m pc ls (.int j :: .ref a :: rest)) rfl rfl hd t kt) (k x hx')
theorem ldR {Z : State} {h : Heap} {a : Addr} {kA : ClassId} {ty : FieldType} {z : Int32} {vs : List Value} {dv : Value} (X : Stand p l e R s m args below meth c T locs cells slots) (hx : p.tables.exec = Jvm.exec) (hZ : Z.Warmed39 s.vm) (eT : T.heap = h) (V : Arv Z h a kA ty z vs dv) (ht : ty.isReference = true)
    {pc : Nat} {ls : Array Slot} {j : Int32} {rest : List Value} (hd : decode c.code pc = .ok (.aaload, 1)) (hj : ¬ j < 0 ∧ j < z) {w : Value} (hv : vs.getD j.toNatClampNeg dv = w) {P : Outcome → State → Prop} (k : Fin p e below (T.setTop (mkF m (pc + 1) ls (w :: rest))) P) :
    Fin p e below (T.setTop (mkF m pc ls (.int j :: .ref a :: rest))) P := by
  obtain ⟨cl, Ar, hin, hat, hf⟩ := arv_at V hj
  exact go (fun t kt => X.aaload hx (j := j) (v := w) (by rw [eT]; exact Ar.1) (State.isArrayOf_alike hZ.alike Ar.2.1) ht Ar.2.2 hin (by rw [hat, hv]) (g := mkF m pc ls (.int j :: .ref a :: rest)) rfl rfl hd t kt) k
theorem ldBc {Z : State} {h : Heap} {a : Addr} {cl : Cell} (X : Stand p l e R s m args below meth c T locs cells slots) (hx : p.tables.exec = Jvm.exec) (hZ : Z.Warmed39 s.vm) (eT : T.heap = h) (A : Arr Z h a cl .byte)
    {pc : Nat} {ls : Array Slot} {j x : Int32} {rest : List Value} (hd : decode c.code pc = .ok (.baload, 1)) (hin : ¬ (j < 0 ∨ cl.slots.size ≤ j.toNatClampNeg)) (hv : cl.slots[j.toNatClampNeg]? = some (.int x)) {P : Outcome → State → Prop} (k : Fin p e below (T.setTop (mkF m (pc + 1) ls (.int x :: rest))) P) :
    Fin p e below (T.setTop (mkF m pc ls (.int j :: .ref a :: rest))) P :=
  go (fun t kt => X.baloadBytes hx (j := j) (v := .int x) (by rw [eT]; exact A.1) (State.isArrayOf_alike hZ.alike A.2.1) A.2.2 hin hv (g := mkF m pc ls (.int j :: .ref a :: rest)) rfl rfl hd t kt) k
theorem alenC {Z : State} {h : Heap} {a : Addr} {cl : Cell} {ty : FieldType} {z : Int32} (X : Stand p l e R s m args below meth c T locs cells slots) (hx : p.tables.exec = Jvm.exec) (hZ : Z.Warmed39 s.vm) (eT : T.heap = h) (A : Arr Z h a cl ty) (hz : cl.slots.size.toInt32 = z)
    {pc : Nat} {ls : Array Slot} {rest : List Value} (hd : decode c.code pc = .ok (.arraylength, 1)) {P : Outcome → State → Prop} (k : Fin p e below (T.setTop (mkF m (pc + 1) ls (.int z :: rest))) P) :
    Fin p e below (T.setTop (mkF m pc ls (.ref a :: rest))) P := by
  refine go (fun t kt => X.arraylength hx (by rw [eT]; exact A.1) (State.isArrayOf_alike hZ.alike A.2.1) (g := mkF m pc ls (.ref a :: rest)) rfl rfl hd t kt) ?_
  rw [hz]
  exact k
theorem retR (X : Stand p l e R s m args below meth c T locs cells slots) (hx : p.tables.exec = Jvm.exec) (hlk : meth.locks = false) {t : FieldType} (hret : meth.sig.returnType = some t) (ht : t.isReference = true) {pc : Nat} {Ls : Array Slot} {z : Value} (hz : z.isRef = true) {rest : List Value} (hd : decode c.code pc = .ok (.areturn, 1))
    {K : Option Value → Heap → List Loc → Prop} {cc ss : Nat} (hc : cells ≤ cc) (hs : slots ≤ ss) (hk : K (some z) T.heap locs) : Fin p e below (T.setTop (mkF m pc Ls (z :: rest))) (Post s K cc ss) := by
  refine retAny X (v := some z) hlk (fun h => by rw [hret] at h; cases h) (fun fs hl => ?_) hc hs hk
  have hm' : T.vm.method? m = some meth := X.method'
  show Steps p.tables e below (T.setTop { method := m, pc := pc, locals := Ls, stack := _ :: rest, locked := none }) _
  jvm_step X.here [X.here.top, hx, hd, hm', hret, ht, hz]
  first | (intro acts; rw [hl _ acts rfl rfl rfl]) | rw [hl _ _ rfl rfl rfl]
  exact Steps.refl _
theorem cP {Z : State} {a0 : Array Value} {h : Heap} (X : Stand p l e R s m args below meth c T locs cells slots) (hx : p.tables.exec = Jvm.exec) (hZ : Z.Warmed39 s.vm) {own C : String} {index : Nat} {y y' : MethodName} {bytes : ByteArray} {maxL : Nat} {ret : Option FieldType} {rm : Room} {as' : Array Value} {Q : Option Value → Heap → List Loc → Prop}
    (hown : s.vm.findClass own = some m.cls) (w1 : (Cond.methodLink own index y).before a0 Z = true) (w2 : (Cond.instanceMethod y).before a0 Z = true) (w5 : (Cond.privateMethod y).before a0 Z = true) (w7 : (Cond.selects C y' y').before a0 Z = true) (hcl : y'.cls = y.cls) (w3 : (Cond.initialized y.cls).before a0 Z = true) (w4 : (Cond.code y bytes maxL ret).before a0 Z = true)
    (hy : y.cls ≠ "java/lang/invoke/MethodHandle" ∧ y.cls ≠ "java/lang/invoke/VarHandle")
    (hM : MetFree l y (head1 [Cond.code y bytes maxL ret] rm) (fun a U => a = as' ∧ Z.Warmed39 U.vm ∧ U.heap = h) (fun _ _ _ _ _ => True) (fun _ U o U' => ∃ v L, o = .returned v ∧ Q v U'.heap L ∧ FrameEnd U o U' L rm.cells rm.slots))
    (hf : rm.frames + 1 ≤ R.frames) {W : Nat} (hl : W + (maxL + 11) + rm.locals ≤ R.locals) {pc : Nat} {ls : Array Slot} {a : Addr} {argsL rest : List Value} {C' : String} (E : Exa Z h a C') (hsize : ls.size = c.maxLocals) (hlen : ∀ sig, parseMethodDescriptor y.desc = some sig → argsL.length = sig.parameters.length)
    (has : (Value.ref a :: argsL).toArray = as') (hW : (rest.map fun v => v.category).sum ≤ W) (hd : decode c.code pc = .ok (.invokevirtual index, 3)) (eT : T.heap = h) (hcc : cells + rm.cells ≤ R.cells) (hss : slots + rm.slots ≤ R.slots) {P : Outcome → State → Prop}
    (k : ∀ T' L v, Stand p l e R s m args below meth c T' (locs ++ L) (cells + rm.cells) (slots + rm.slots) → Q v T'.heap L → Fin p e below (T'.setTop (mkF m (pc + 3) ls (v.toList ++ rest))) P) :
    Fin p e below (T.setTop (mkF m pc ls (argsL.reverse ++ .ref a :: rest))) P := by
  have hpr : s.PrivateAt y := Cond.privateMethod_at (mvP hZ w5 (args := #[]))
  have hsel : (Cond.selects y.cls y y).before args s = true := by
    obtain ⟨c2, r2, m2, q1, q2, q3, q4, kP, hkP, hkPi⟩ := Cond.selects_spec (mvT (args := args) hZ w7)
    exact selects_self_of_private (hcl ▸ findClass_of_methodNamed q3) hkP hkPi hpr (mvT hZ w2) hy
  obtain ⟨cq, q1, q2⟩ := E.cell
  obtain ⟨v, _, ⟨T', L', k', n'⟩, -, X', ⟨L, hQ, e1, e2, e3⟩, st⟩ := X.privateBack hx (y := y) hown (mvT hZ w1) (mvT hZ w2) hsel hpr (mvT hZ w4) hy (backOf (W := W) hM hZ w4 w3 hf hl) (g := mkF m pc ls (argsL.reverse ++ .ref a :: rest)) rfl hsize (Steps.refl _) (a := a) (by rw [eT]; exact q1) q2 (argsL := argsL) (rest := rest) hlen rfl
    (by show 2 * 0 + _ ≤ _; omega) hd (fun _ _ => ⟨has, eT, hcc, hss⟩)
  dsimp only [Pt.U, Pt.locs, Pt.cells, Pt.slots] at X' e1 e2 e3 st hQ
  subst e1 e2 e3
  exact go (fun t kt => st.trans kt) (k T' L v X' hQ)
end A
section B
variable {args : Array Value} {first s : State} {o : Option Outcome} {idx : List Nat} {a b : Term}
theorem eqR {y : Addr} (h : (Cond.eq a b).value args first o s idx = some true) (hb : b.eval args first o idx s = some (.ref y)) : a.eval args first o idx s = some (.ref y) := by
  obtain ⟨x', y', h1, h2, k1, k2⟩ := cmp_v (Or.inl h)
  cases hb.symm.trans h2
  have hx : x'.isRef = true := k2.2
  rw [h1, gotT (eq_R h1 hb hx rfl) h]
theorem eqI {y : Int32} (h : (Cond.eq a b).value args first o s idx = some true) (hb : b.eval args first o idx s = some (.int y)) : a.eval args first o idx s = some (.int y) := by
  obtain ⟨x', y', h1, h2, k1, k2⟩ := cmp_v (Or.inl h)
  cases hb.symm.trans h2
  obtain ⟨z, rfl⟩ := k2
  rw [h1, gotT (Cond.eq_ints h1 hb) h]
theorem len_at {y : Int32} (h : (Term.length a).eval args first o idx s = some (.int y)) : ∃ (x : Addr) (cell : Cell), a.eval args first o idx s = some (.ref x) ∧ s.arrayAt? x = some cell ∧ cell.slots.size < 2 ^ 31 ∧ cell.slots.size.toInt32 = y := by
  obtain ⟨b, cell, h1, h2, h3, h4⟩ := Jvm.Lib.length_spec h
  exact ⟨b, cell, h1, h2, h3, (Value.int.inj h4).symm⟩
end B
end Own
namespace Jvm.Pilot.@@N@@
open Jvm Jvm.ClassFile Sem Op Lib Jvm.Free Jvm.Stand Jvm.LawKit Jvm.RoadKit Bundle Jvm.Pilot.@@N@@.Jvm.D
def F_step (h b c : Int32) : Int32 := if (h - (h / c) * c) = (0 : Int32) then (if (0 : Int32) < (lcmpW ((h).toInt64 * (h).toInt64) ((1 : Int64) <<< ((c + b) &&& 0x3f).toInt64)) then c else b) else b
def F_loop : Nat → Int32 → Int32 → Int32 → Int32
  | 0, h, b, c => b
  | n + 1, h, b, c => F_loop n h (F_step h b c) (c + (1 : Int32))
def F_def (h : Int32) : Int32 := F_loop (h.toNatClampNeg - 1) h 1 2
def own_tab : List Int32 := [1, 1, 1, 2, 1, 3, 1, 2, 3, 2, 1, 4, 1, 2, 3, 4, 1, 3, 1, 4, 3, 2, 1, 4, 5, 2, 3, 4, 1, 5, 1, 4]
theorem own_def : ∀ k : Nat, k < 32 → F_def (Int32.ofNat (k + 1)) = own_tab.getD k 0 := by decide +kernel
def own_ok (h c d : Int32) : Bool := !decide (d < 1) && !decide (h < d) && decide (d ≠ 0) && decide ((h - (h / d) * d) = 0) && (decide (h < c) || (decide (c ≠ 0) && (!decide ((h - (h / c) * c) = 0) || decide (c = d) || (if d < c then !decide (0 < lcmpW ((h).toInt64 * (h).toInt64) ((1 : Int64) <<< ((c + d) &&& 0x3f).toInt64)) else decide (0 < lcmpW ((h).toInt64 * (h).toInt64) ((1 : Int64) <<< ((c + d) &&& 0x3f).toInt64))))))
theorem own_all : ∀ k : Nat, k < 32 → ∀ j : Nat, j < 32 → own_ok (Int32.ofNat (k + 1)) (Int32.ofNat (j + 1)) (own_tab.getD k 0) = true := by decide +kernel
theorem own_nat (z : Int32) (h1 : 1 ≤ z.toInt) (h2 : z.toInt ≤ 32) : ∃ k : Nat, k < 32 ∧ z = Int32.ofNat (k + 1) := by
  refine ⟨z.toInt.toNat - 1, by omega, ?_⟩
  apply Int32.toInt_inj.mp
  rw [Int32.toInt_ofNat_small (by omega)]
  omega
theorem own_hh (x : Int32) : 1 ≤ ((1 : Int32) + (x &&& (31 : Int32))).toInt ∧ ((1 : Int32) + (x &&& (31 : Int32))).toInt ≤ 32 := by
  have h0 := c_and x 31 (by decide)
  have h1 := c_iadd 1 (x &&& 31)
  have b1 := ((1 : Int32) + (x &&& (31 : Int32))).toInt_lt; have b2 := ((1 : Int32) + (x &&& (31 : Int32))).le_toInt
  rw [show (31 : Int32).toInt = 31 by decide] at h0
  rw [show (1 : Int32).toInt = 1 by decide] at h1
  omega
theorem own_cc (y h : Int32) (h1 : 1 ≤ h.toInt) (h2 : h.toInt ≤ 32) : 1 ≤ ((1 : Int32) + ((y &&& (2147483647 : Int32)) - ((y &&& (2147483647 : Int32)) / h) * h)).toInt ∧ ((1 : Int32) + ((y &&& (2147483647 : Int32)) - ((y &&& (2147483647 : Int32)) / h) * h)).toInt ≤ h.toInt := by
  have h0 := c_and y 2147483647 (by decide)
  generalize y &&& (2147483647 : Int32) = a at h0 ⊢
  rw [irem_eq_mod]
  have hm := (c_irem a h h.toInt rfl).1 h0.1
  have hp : 0 ≤ a.toInt % h.toInt := Int.emod_nonneg _ (by omega)
  have hq : a.toInt % h.toInt < h.toInt := Int.emod_lt_of_pos _ (by omega)
  have hs := c_iadd 1 (a % h)
  have b1 := ((1 : Int32) + (a % h)).toInt_lt; have b2 := ((1 : Int32) + (a % h)).le_toInt
  rw [hm, show (1 : Int32).toInt = 1 by decide] at hs
  omega
theorem own_law (h c : Int32) (h1 : 1 ≤ h.toInt) (h2 : h.toInt ≤ 32) (c1 : 1 ≤ c.toInt) (c2 : c.toInt ≤ h.toInt) : ¬ F_def h < 1 ∧ ¬ h < F_def h ∧ F_def h ≠ 0 ∧ (h - (h / F_def h) * F_def h) = 0 ∧ c ≠ 0 ∧ ((h - (h / c) * c) = 0 → ¬ c = F_def h → (F_def h < c → ¬ 0 < lcmpW ((h).toInt64 * (h).toInt64) ((1 : Int64) <<< ((c + F_def h) &&& 0x3f).toInt64)) ∧ (¬ F_def h < c → 0 < lcmpW ((h).toInt64 * (h).toInt64) ((1 : Int64) <<< ((c + F_def h) &&& 0x3f).toInt64))) := by
  obtain ⟨k, hk, ek⟩ := own_nat h h1 h2
  obtain ⟨j, hj, ej⟩ := own_nat c c1 (by omega)
  have hd : F_def h = own_tab.getD k 0 := by rw [ek]; exact own_def k hk
  have ha := own_all k hk j hj
  rw [← ek, ← ej, ← hd] at ha
  have hn : ¬ h < c := by rw [Int32.lt_iff_toInt_lt]; omega
  generalize F_def h = d at ha ⊢
  simp only [own_ok, hn, Bool.and_eq_true, Bool.or_eq_true, Bool.not_eq_true', decide_eq_false_iff_not, decide_eq_true_eq, false_or, ne_eq] at ha
  obtain ⟨⟨⟨⟨a1, a2⟩, a3⟩, a4⟩, a5, a6⟩ := ha
  refine ⟨a1, a2, a3, a4, a5, fun q1 q2 => ⟨fun q3 => ?_, fun q3 => ?_⟩⟩
  · rcases a6 with (a6 | a6) | a6
    · exact absurd q1 a6
    · exact absurd a6 q2
    · rw [if_pos q3] at a6; simpa using a6
  · rcases a6 with (a6 | a6) | a6
    · exact absurd q1 a6
    · exact absurd a6 q2
    · rw [if_neg q3] at a6; simpa using a6
theorem own_clamp (x : Int32) : 0 ≤ x.toInt → (x.toNatClampNeg : Int) = x.toInt := fun h => by
  show ((x.toInt.toNat : Nat) : Int) = _
  omega
theorem d1_0 : decode prog_29_method_5_code 0 = .ok (.iconst 1, 1) := by decide +kernel
theorem d1_1 : decode prog_29_method_5_code 1 = .ok (.istore_n 1, 1) := by decide +kernel
theorem d1_2 : decode prog_29_method_5_code 2 = .ok (.iconst 2, 1) := by decide +kernel
theorem d1_3 : decode prog_29_method_5_code 3 = .ok (.istore_n 2, 1) := by decide +kernel
theorem d1_4 : decode prog_29_method_5_code 4 = .ok (.iload_n 2, 1) := by decide +kernel
theorem d1_5 : decode prog_29_method_5_code 5 = .ok (.iload_n 0, 1) := by decide +kernel
theorem d1_6 : decode prog_29_method_5_code 6 = .ok (.if_icmp .gt 31, 3) := by decide +kernel
theorem d1_9 : decode prog_29_method_5_code 9 = .ok (.iload_n 0, 1) := by decide +kernel
theorem d1_10 : decode prog_29_method_5_code 10 = .ok (.iload_n 2, 1) := by decide +kernel
theorem d1_11 : decode prog_29_method_5_code 11 = .ok (.irem, 1) := by decide +kernel
theorem d1_12 : decode prog_29_method_5_code 12 = .ok (.ifCond .ne 19, 3) := by decide +kernel
theorem d1_15 : decode prog_29_method_5_code 15 = .ok (.iload_n 0, 1) := by decide +kernel
theorem d1_16 : decode prog_29_method_5_code 16 = .ok (.i2l, 1) := by decide +kernel
theorem d1_17 : decode prog_29_method_5_code 17 = .ok (.iload_n 0, 1) := by decide +kernel
theorem d1_18 : decode prog_29_method_5_code 18 = .ok (.i2l, 1) := by decide +kernel
theorem d1_19 : decode prog_29_method_5_code 19 = .ok (.lmul, 1) := by decide +kernel
theorem d1_20 : decode prog_29_method_5_code 20 = .ok (.lconst 1, 1) := by decide +kernel
theorem d1_21 : decode prog_29_method_5_code 21 = .ok (.iload_n 2, 1) := by decide +kernel
theorem d1_22 : decode prog_29_method_5_code 22 = .ok (.iload_n 1, 1) := by decide +kernel
theorem d1_23 : decode prog_29_method_5_code 23 = .ok (.iadd, 1) := by decide +kernel
theorem d1_24 : decode prog_29_method_5_code 24 = .ok (.lshl, 1) := by decide +kernel
theorem d1_25 : decode prog_29_method_5_code 25 = .ok (.lcmp, 1) := by decide +kernel
theorem d1_26 : decode prog_29_method_5_code 26 = .ok (.ifCond .le 5, 3) := by decide +kernel
theorem d1_29 : decode prog_29_method_5_code 29 = .ok (.iload_n 2, 1) := by decide +kernel
theorem d1_30 : decode prog_29_method_5_code 30 = .ok (.istore_n 1, 1) := by decide +kernel
theorem d1_31 : decode prog_29_method_5_code 31 = .ok (.iinc 2 1, 3) := by decide +kernel
theorem d1_34 : decode prog_29_method_5_code 34 = .ok (.goto (-30), 3) := by decide +kernel
theorem d1_37 : decode prog_29_method_5_code 37 = .ok (.iload_n 1, 1) := by decide +kernel
theorem d1_38 : decode prog_29_method_5_code 38 = .ok (.ireturn, 1) := by decide +kernel
theorem pn_1 : plainName "com/example/treadle/treadle/MerkleTraversal" = true := by first | (simp [plainName, overriddenIn]; done) | decide +kernel
theorem ef_1 (m : MethodId) (p1 : Int32) : entryFrame m #[(.int p1)] 3 = mkF m 0 #[.val (.int p1), .unset, .unset] [] := by first | (simp [entryFrame, mkF, argsToLocals, Value.category]; done) | rfl
def Q1 (Z : State) (p1 : Int32)  (h0 : Heap) (n0 : Nat) : Option Value → Heap → List Loc → Prop := fun v h L => v = some (.int (F_def p1)) ∧ Fr n0 L ∧ h = h0
set_option maxRecDepth 65536 in
set_option maxHeartbeats 40000000 in
theorem rm1 (l : Launch) (Z : State) (a0 : Array Value) (hw : ∀ d ∈ tables_1, d.before a0 Z = true) (ws : List Jvm.Cond) (p1 : Int32)  (h0 : Heap) (n0 : Nat) (Z0 : n0 ≤ h0.size) (hp1 : 1 ≤ p1.toInt) (hp2 : p1.toInt ≤ 32) :
    MetFree l (⟨"com/example/treadle/treadle/MerkleTraversal", "defaultSubtree", "(I)I"⟩ : MethodName) (head1 (Jvm.Cond.code (⟨"com/example/treadle/treadle/MerkleTraversal", "defaultSubtree", "(I)I"⟩ : MethodName) prog_29_method_5_code 3 (some .int) :: ws) ({ frames := 0, cells := 0, slots := 0, locals := 0 } : Room)) (fun a U => a = #[(.int p1)] ∧ Z.Warmed39 U.vm ∧ U.heap = h0) (fun _ _ _ _ _ => True) (fun _ U o U' => ∃ v L, o = .returned v ∧ (Q1 Z p1 h0 n0) v U'.heap L ∧ FrameEnd U o U' L ({ frames := 0, cells := 0, slots := 0, locals := 0 } : Room).cells ({ frames := 0, cells := 0, slots := 0, locals := 0 } : Room).slots) := by
  refine MetFree.of_bodySF (plainFor_of_name pn_1) hisR ?_
  intro p e s m args below meth c s₁ Bd hml0 hP hK
  obtain ⟨rfl, hZ, hh⟩ := hP
  have hx := Bd.exec
  have hby := Bd.bytes
  have hml : c.maxLocals = 3 := hml0
  have hown : s.vm.findClass "com/example/treadle/treadle/MerkleTraversal" = some m.cls := findClass_of_methodNamed Bd.named
  have hnm := (name_of_methodNamed Bd.named Bd.method).1
  have X0 : Stand p l e ({ frames := 0, cells := 0, slots := 0, locals := 0 } : Room) s m #[(.int p1)] below meth c s₁ [] 0 0 := Stand.of_body Bd
  have e0 : s₁.heap = h0 := by rw [← hh, Bd.state]; rfl
  have N0 := Fr.nil n0
  show Own.Fin p e below _ (Own.Post s (Q1 Z p1 h0 n0) ({ frames := 0, cells := 0, slots := 0, locals := 0 } : Room).cells ({ frames := 0, cells := 0, slots := 0, locals := 0 } : Room).slots)
  refine Own.start (ef_1 m p1) ?_
  have loop : ∀ (n : Nat) (b cc : Int32), cc.toInt + n = p1.toInt + 1 → 1 ≤ cc.toInt → Own.Fin p e below (s₁.setTop (mkF m 4 #[.val (.int p1), .val (.int b), .val (.int cc)] [])) (Own.Post s (fun v h L => v = some (.int (F_loop n p1 b cc)) ∧ Fr n0 L ∧ h = h0) ({ frames := 0, cells := 0, slots := 0, locals := 0 } : Room).cells ({ frames := 0, cells := 0, slots := 0, locals := 0 } : Room).slots) := by
    intro n
    induction n with
    | zero =>
      intro b cc hn hc
      show Own.Fin p e below (s₁.setTop (mkF m 4 #[.val (.int p1), .val (.int b), .val (.int cc)] [])) _
      refine Own.go (fun t k => XS.iloadN X0.here hx rfl (hb hby d1_4) rfl k) ?_
      show Own.Fin p e below (s₁.setTop (mkF m 5 #[.val (.int p1), .val (.int b), .val (.int cc)] [(.int cc)])) _
      refine Own.go (fun t k => XS.iloadN X0.here hx rfl (hb hby d1_5) rfl k) ?_
      show Own.Fin p e below (s₁.setTop (mkF m 6 #[.val (.int p1), .val (.int b), .val (.int cc)] [(.int p1), (.int cc)])) _
      have hc6_0 : p1 < cc := by rw [Int32.lt_iff_toInt_lt]; omega
      refine Own.go (fun t k => XS.icmpYes X0.here hx rfl (pc0 := 6) (pc' := 37) rfl (hb hby d1_6) rfl (tlt hc6_0).2.2.1 (by decide) (by decide) k) ?_
      show Own.Fin p e below (s₁.setTop (mkF m 37 #[.val (.int p1), .val (.int b), .val (.int cc)] [])) _
      refine Own.go (fun t k => XS.iloadN X0.here hx rfl (hb hby d1_37) rfl k) ?_
      show Own.Fin p e below (s₁.setTop (mkF m 38 #[.val (.int p1), .val (.int b), .val (.int cc)] [(.int b)])) _
      refine Own.retI X0 hx Bd.notSynchronized Bd.returns (hb hby d1_38) (by decide) (by decide) ?_
      exact ⟨rfl, N0, e0⟩
    | succ n ih =>
      intro b cc hn hc
      show Own.Fin p e below (s₁.setTop (mkF m 4 #[.val (.int p1), .val (.int b), .val (.int cc)] [])) _
      refine Own.go (fun t k => XS.iloadN X0.here hx rfl (hb hby d1_4) rfl k) ?_
      show Own.Fin p e below (s₁.setTop (mkF m 5 #[.val (.int p1), .val (.int b), .val (.int cc)] [(.int cc)])) _
      refine Own.go (fun t k => XS.iloadN X0.here hx rfl (hb hby d1_5) rfl k) ?_
      show Own.Fin p e below (s₁.setTop (mkF m 6 #[.val (.int p1), .val (.int b), .val (.int cc)] [(.int p1), (.int cc)])) _
      have hc6_1 : ¬ (p1 < cc) := by rw [Int32.lt_iff_toInt_lt]; omega
      refine Own.go (fun t k => XS.icmpNo X0.here hx rfl (hb hby d1_6) rfl (flt hc6_1).2.2.1 k) ?_
      show Own.Fin p e below (s₁.setTop (mkF m 9 #[.val (.int p1), .val (.int b), .val (.int cc)] [])) _
      refine Own.go (fun t k => XS.iloadN X0.here hx rfl (hb hby d1_9) rfl k) ?_
      show Own.Fin p e below (s₁.setTop (mkF m 10 #[.val (.int p1), .val (.int b), .val (.int cc)] [(.int p1)])) _
      refine Own.go (fun t k => XS.iloadN X0.here hx rfl (hb hby d1_10) rfl k) ?_
      show Own.Fin p e below (s₁.setTop (mkF m 11 #[.val (.int p1), .val (.int b), .val (.int cc)] [(.int cc), (.int p1)])) _
      refine Own.go (fun t k => XS.irem X0.here hx rfl (hb hby d1_11) rfl (by intro q; rw [q] at hc; exact absurd hc (by decide)) k) ?_
      show Own.Fin p e below (s₁.setTop (mkF m 12 #[.val (.int p1), .val (.int b), .val (.int cc)] [(.int (p1 - (p1 / cc) * cc))])) _
      by_cases hc12_2 : (p1 - (p1 / cc) * cc) = (0 : Int32)
      · skip
        refine Own.go (fun t k => XS.ifNo X0.here hx rfl (hb hby d1_12) rfl ((if0 _ _).trans (teq hc12_2).2) k) ?_
        show Own.Fin p e below (s₁.setTop (mkF m 15 #[.val (.int p1), .val (.int b), .val (.int cc)] [])) _
        refine Own.go (fun t k => XS.iloadN X0.here hx rfl (hb hby d1_15) rfl k) ?_
        show Own.Fin p e below (s₁.setTop (mkF m 16 #[.val (.int p1), .val (.int b), .val (.int cc)] [(.int p1)])) _
        refine Own.go (fun t k => XS.i2l X0.here hx rfl (hb hby d1_16) rfl k) ?_
        show Own.Fin p e below (s₁.setTop (mkF m 17 #[.val (.int p1), .val (.int b), .val (.int cc)] [(.long ((p1).toInt64))])) _
        refine Own.go (fun t k => XS.iloadN X0.here hx rfl (hb hby d1_17) rfl k) ?_
        show Own.Fin p e below (s₁.setTop (mkF m 18 #[.val (.int p1), .val (.int b), .val (.int cc)] [(.int p1), (.long ((p1).toInt64))])) _
        refine Own.go (fun t k => XS.i2l X0.here hx rfl (hb hby d1_18) rfl k) ?_
        show Own.Fin p e below (s₁.setTop (mkF m 19 #[.val (.int p1), .val (.int b), .val (.int cc)] [(.long ((p1).toInt64)), (.long ((p1).toInt64))])) _
        refine Own.go (fun t k => XS.lmul X0.here hx rfl (hb hby d1_19) rfl k) ?_
        show Own.Fin p e below (s₁.setTop (mkF m 20 #[.val (.int p1), .val (.int b), .val (.int cc)] [(.long (((p1).toInt64) * ((p1).toInt64)))])) _
        refine Own.go (fun t k => XS.lconst X0.here hx rfl (hb hby d1_20) k) ?_
        show Own.Fin p e below (s₁.setTop (mkF m 21 #[.val (.int p1), .val (.int b), .val (.int cc)] [(.long (1 : Int64)), (.long (((p1).toInt64) * ((p1).toInt64)))])) _
        refine Own.go (fun t k => XS.iloadN X0.here hx rfl (hb hby d1_21) rfl k) ?_
        show Own.Fin p e below (s₁.setTop (mkF m 22 #[.val (.int p1), .val (.int b), .val (.int cc)] [(.int cc), (.long (1 : Int64)), (.long (((p1).toInt64) * ((p1).toInt64)))])) _
        refine Own.go (fun t k => XS.iloadN X0.here hx rfl (hb hby d1_22) rfl k) ?_
        show Own.Fin p e below (s₁.setTop (mkF m 23 #[.val (.int p1), .val (.int b), .val (.int cc)] [(.int b), (.int cc), (.long (1 : Int64)), (.long (((p1).toInt64) * ((p1).toInt64)))])) _
        refine Own.go (fun t k => XS.iadd X0.here hx rfl (hb hby d1_23) rfl k) ?_
        show Own.Fin p e below (s₁.setTop (mkF m 24 #[.val (.int p1), .val (.int b), .val (.int cc)] [(.int (cc + b)), (.long (1 : Int64)), (.long (((p1).toInt64) * ((p1).toInt64)))])) _
        refine Own.go (fun t k => XS.lshl X0.here hx rfl (hb hby d1_24) rfl k) ?_
        show Own.Fin p e below (s₁.setTop (mkF m 25 #[.val (.int p1), .val (.int b), .val (.int cc)] [(.long (((1 : Int64) <<< ((cc + b) &&& 0x3f).toInt64))), (.long (((p1).toInt64) * ((p1).toInt64)))])) _
        refine Own.go (fun t k => XS.lcmp X0.here hx rfl (hb hby d1_25) rfl k) ?_
        show Own.Fin p e below (s₁.setTop (mkF m 26 #[.val (.int p1), .val (.int b), .val (.int cc)] [(.int (lcmpW (((p1).toInt64) * ((p1).toInt64)) (((1 : Int64) <<< ((cc + b) &&& 0x3f).toInt64))))])) _
        by_cases hc26_3 : (0 : Int32) < (lcmpW (((p1).toInt64) * ((p1).toInt64)) (((1 : Int64) <<< ((cc + b) &&& 0x3f).toInt64)))
        · skip
          refine Own.go (fun t k => XS.ifNo X0.here hx rfl (hb hby d1_26) rfl ((if0 _ _).trans (tlt hc26_3).2.2.2) k) ?_
          show Own.Fin p e below (s₁.setTop (mkF m 29 #[.val (.int p1), .val (.int b), .val (.int cc)] [])) _
          refine Own.go (fun t k => XS.iloadN X0.here hx rfl (hb hby d1_29) rfl k) ?_
          show Own.Fin p e below (s₁.setTop (mkF m 30 #[.val (.int p1), .val (.int b), .val (.int cc)] [(.int cc)])) _
          refine Own.go (fun t k => XS.istoreN X0.here hx rfl (hb hby d1_30) rfl (l' := #[.val (.int p1), .val (.int cc), .val (.int cc)]) rfl k) ?_
          show Own.Fin p e below (s₁.setTop (mkF m 31 #[.val (.int p1), .val (.int cc), .val (.int cc)] [])) _
          refine Own.go (fun t k => XS.iinc X0.here hx rfl (hb hby d1_31) rfl (l' := #[.val (.int p1), .val (.int cc), .val (.int (cc + (1 : Int32)))]) rfl k) ?_
          show Own.Fin p e below (s₁.setTop (mkF m 34 #[.val (.int p1), .val (.int cc), .val (.int (cc + (1 : Int32)))] [])) _
          refine Own.go (fun t k => XS.goto X0.here hx rfl (pc0 := 34) (pc' := 4) rfl (hb hby d1_34) (by decide) (by decide) k) ?_
          show Own.Fin p e below (s₁.setTop (mkF m 4 #[.val (.int p1), .val (.int cc), .val (.int (cc + (1 : Int32)))] [])) _
          rw [show F_loop (n + 1) p1 b cc = F_loop n p1 cc (cc + (1 : Int32)) by simp only [F_loop, F_step, hc12_2, hc26_3, if_true, if_false]]
          refine ih _ _ ?_ ?_ <;> · have h1 := c_iadd cc 1; have b1 := (cc + (1 : Int32)).toInt_lt; have b2 := (cc + (1 : Int32)).le_toInt; rw [show (1 : Int32).toInt = 1 by decide] at h1; omega
        · skip
          refine Own.go (fun t k => XS.ifYes X0.here hx rfl (pc0 := 26) (pc' := 31) rfl (hb hby d1_26) rfl ((if0 _ _).trans (flt hc26_3).2.2.2) (by decide) (by decide) k) ?_
          show Own.Fin p e below (s₁.setTop (mkF m 31 #[.val (.int p1), .val (.int b), .val (.int cc)] [])) _
          refine Own.go (fun t k => XS.iinc X0.here hx rfl (hb hby d1_31) rfl (l' := #[.val (.int p1), .val (.int b), .val (.int (cc + (1 : Int32)))]) rfl k) ?_
          show Own.Fin p e below (s₁.setTop (mkF m 34 #[.val (.int p1), .val (.int b), .val (.int (cc + (1 : Int32)))] [])) _
          refine Own.go (fun t k => XS.goto X0.here hx rfl (pc0 := 34) (pc' := 4) rfl (hb hby d1_34) (by decide) (by decide) k) ?_
          show Own.Fin p e below (s₁.setTop (mkF m 4 #[.val (.int p1), .val (.int b), .val (.int (cc + (1 : Int32)))] [])) _
          rw [show F_loop (n + 1) p1 b cc = F_loop n p1 b (cc + (1 : Int32)) by simp only [F_loop, F_step, hc12_2, hc26_3, if_true, if_false]]
          refine ih _ _ ?_ ?_ <;> · have h1 := c_iadd cc 1; have b1 := (cc + (1 : Int32)).toInt_lt; have b2 := (cc + (1 : Int32)).le_toInt; rw [show (1 : Int32).toInt = 1 by decide] at h1; omega
      · skip
        refine Own.go (fun t k => XS.ifYes X0.here hx rfl (pc0 := 12) (pc' := 31) rfl (hb hby d1_12) rfl ((if0 _ _).trans (feq hc12_2).2) (by decide) (by decide) k) ?_
        show Own.Fin p e below (s₁.setTop (mkF m 31 #[.val (.int p1), .val (.int b), .val (.int cc)] [])) _
        refine Own.go (fun t k => XS.iinc X0.here hx rfl (hb hby d1_31) rfl (l' := #[.val (.int p1), .val (.int b), .val (.int (cc + (1 : Int32)))]) rfl k) ?_
        show Own.Fin p e below (s₁.setTop (mkF m 34 #[.val (.int p1), .val (.int b), .val (.int (cc + (1 : Int32)))] [])) _
        refine Own.go (fun t k => XS.goto X0.here hx rfl (pc0 := 34) (pc' := 4) rfl (hb hby d1_34) (by decide) (by decide) k) ?_
        show Own.Fin p e below (s₁.setTop (mkF m 4 #[.val (.int p1), .val (.int b), .val (.int (cc + (1 : Int32)))] [])) _
        rw [show F_loop (n + 1) p1 b cc = F_loop n p1 b (cc + (1 : Int32)) by simp only [F_loop, F_step, hc12_2, if_true, if_false]]
        refine ih _ _ ?_ ?_ <;> · have h1 := c_iadd cc 1; have b1 := (cc + (1 : Int32)).toInt_lt; have b2 := (cc + (1 : Int32)).le_toInt; rw [show (1 : Int32).toInt = 1 by decide] at h1; omega
  show Own.Fin p e below (s₁.setTop (mkF m 0 #[.val (.int p1), .unset, .unset] [])) _
  refine Own.go (fun t k => XS.iconst X0.here hx rfl (hb hby d1_0) k) ?_
  show Own.Fin p e below (s₁.setTop (mkF m 1 #[.val (.int p1), .unset, .unset] [(.int (1 : Int32))])) _
  refine Own.go (fun t k => XS.istoreN X0.here hx rfl (hb hby d1_1) rfl (l' := #[.val (.int p1), .val (.int (1 : Int32)), .unset]) rfl k) ?_
  show Own.Fin p e below (s₁.setTop (mkF m 2 #[.val (.int p1), .val (.int (1 : Int32)), .unset] [])) _
  refine Own.go (fun t k => XS.iconst X0.here hx rfl (hb hby d1_2) k) ?_
  show Own.Fin p e below (s₁.setTop (mkF m 3 #[.val (.int p1), .val (.int (1 : Int32)), .unset] [(.int (2 : Int32))])) _
  refine Own.go (fun t k => XS.istoreN X0.here hx rfl (hb hby d1_3) rfl (l' := #[.val (.int p1), .val (.int (1 : Int32)), .val (.int (2 : Int32))]) rfl k) ?_
  show Own.Fin p e below (s₁.setTop (mkF m 4 #[.val (.int p1), .val (.int (1 : Int32)), .val (.int (2 : Int32))] [])) _
  exact loop (p1.toNatClampNeg - 1) 1 2 (by rw [show (2 : Int32).toInt = 2 by decide]; have := own_clamp p1; omega) (by decide)
theorem pd_0 : parseMethodDescriptor "(I)I" = some ⟨[.int], some .int⟩ := by decide +kernel
theorem pn_0 : plainName "com/example/treadle/treadle/MerkleTraversalDefaultSubtreePinLaw" = true := by first | (simp [plainName, overriddenIn]; done) | decide +kernel
theorem ef_0 (m : MethodId) (p1 : Int32) (p2 : Int32) : entryFrame m #[(.int p1), (.int p2)] maxLocals = mkF m 0 #[.val (.int p1), .val (.int p2), .unset, .unset, .unset, .unset, .unset, .unset, .unset] [] := by first | (simp [entryFrame, mkF, argsToLocals, Value.category, maxLocals]; done) | rfl
def Q0 (Z : State) (p1 : Int32) (p2 : Int32)  (h0 : Heap) (n0 : Nat) : Option Value → Heap → List Loc → Prop := fun v h L => v = some (.int 1) ∧ Fr n0 L
set_option maxRecDepth 65536 in
set_option maxHeartbeats 40000000 in
theorem rm0 (l : Launch) (Z : State) (a0 : Array Value) (hw : ∀ d ∈ tables_1, d.before a0 Z = true) (ws : List Jvm.Cond) (p1 : Int32) (p2 : Int32)  (h0 : Heap) (n0 : Nat) (Z0 : n0 ≤ h0.size)  :
    MetFree l x (head1 (Jvm.Cond.code x code maxLocals ret :: ws) room_1) (fun a U => a = #[(.int p1), (.int p2)] ∧ Z.Warmed39 U.vm ∧ U.heap = h0) (fun _ _ _ _ _ => True) (fun _ U o U' => ∃ v L, o = .returned v ∧ (Q0 Z p1 p2 h0 n0) v U'.heap L ∧ FrameEnd U o U' L room_1.cells room_1.slots) := by
  refine MetFree.of_bodySF (plainFor_of_name pn_0) hisR ?_
  intro p e s m args below meth c s₁ Bd hml0 hP hK
  obtain ⟨rfl, hZ, hh⟩ := hP
  have hx := Bd.exec
  have hby := Bd.bytes
  have hml : c.maxLocals = 9 := hml0
  have hown : s.vm.findClass "com/example/treadle/treadle/MerkleTraversalDefaultSubtreePinLaw" = some m.cls := findClass_of_methodNamed Bd.named
  have hnm := (name_of_methodNamed Bd.named Bd.method).1
  have X0 : Stand p l e room_1 s m #[(.int p1), (.int p2)] below meth c s₁ [] 0 0 := Stand.of_body Bd
  have e0 : s₁.heap = h0 := by rw [← hh, Bd.state]; rfl
  have N0 := Fr.nil n0
  show Own.Fin p e below _ (Own.Post s (Q0 Z p1 p2 h0 n0) room_1.cells room_1.slots)
  refine Own.start (ef_0 m p1 p2) ?_
  show Own.Fin p e below (s₁.setTop (mkF m 0 #[.val (.int p1), .val (.int p2), .unset, .unset, .unset, .unset, .unset, .unset, .unset] [])) _
  refine Own.go (fun t k => XS.iconst X0.here hx rfl (hb hby at_0) k) ?_
  show Own.Fin p e below (s₁.setTop (mkF m 1 #[.val (.int p1), .val (.int p2), .unset, .unset, .unset, .unset, .unset, .unset, .unset] [(.int (1 : Int32))])) _
  refine Own.go (fun t k => XS.iloadN X0.here hx rfl (hb hby at_1) rfl k) ?_
  show Own.Fin p e below (s₁.setTop (mkF m 2 #[.val (.int p1), .val (.int p2), .unset, .unset, .unset, .unset, .unset, .unset, .unset] [(.int p1), (.int (1 : Int32))])) _
  refine Own.go (fun t k => XS.bipush X0.here hx rfl (hb hby at_2) k) ?_
  show Own.Fin p e below (s₁.setTop (mkF m 4 #[.val (.int p1), .val (.int p2), .unset, .unset, .unset, .unset, .unset, .unset, .unset] [(.int (31 : Int32)), (.int p1), (.int (1 : Int32))])) _
  refine Own.go (fun t k => XS.iand X0.here hx rfl (hb hby at_4) rfl k) ?_
  show Own.Fin p e below (s₁.setTop (mkF m 5 #[.val (.int p1), .val (.int p2), .unset, .unset, .unset, .unset, .unset, .unset, .unset] [(.int (p1 &&& (31 : Int32))), (.int (1 : Int32))])) _
  refine Own.go (fun t k => XS.iadd X0.here hx rfl (hb hby at_5) rfl k) ?_
  show Own.Fin p e below (s₁.setTop (mkF m 6 #[.val (.int p1), .val (.int p2), .unset, .unset, .unset, .unset, .unset, .unset, .unset] [(.int ((1 : Int32) + (p1 &&& (31 : Int32))))])) _
  have hh := own_hh p1
  generalize hhg : ((1 : Int32) + (p1 &&& (31 : Int32))) = hg
  rw [hhg] at hh
  refine Own.go (fun t k => XS.istoreN X0.here hx rfl (hb hby at_6) rfl (l' := #[.val (.int p1), .val (.int p2), .val (.int hg), .unset, .unset, .unset, .unset, .unset, .unset]) rfl k) ?_
  show Own.Fin p e below (s₁.setTop (mkF m 7 #[.val (.int p1), .val (.int p2), .val (.int hg), .unset, .unset, .unset, .unset, .unset, .unset] [])) _
  refine Own.go (fun t k => XS.iloadN X0.here hx rfl (hb hby at_7) rfl k) ?_
  show Own.Fin p e below (s₁.setTop (mkF m 8 #[.val (.int p1), .val (.int p2), .val (.int hg), .unset, .unset, .unset, .unset, .unset, .unset] [(.int hg)])) _
  refine Own.cS X0 hx hZ hown (hw _ (List.mem_of_getElem? (i := 0) rfl)) (hw _ (List.mem_of_getElem? (i := 1) rfl)) (hw _ (List.mem_of_getElem? (i := 2) rfl)) (hw _ (List.mem_of_getElem? (i := 3) rfl)) (by decide) (rm1 l Z a0 hw [] hg h0 n0 Z0 hh.1 hh.2) (by decide) (W := 0) (by decide) (argsL := [(.int hg)]) (rest := []) (by rw [hml]; rfl) (lenOf pd_0 rfl) rfl (Nat.le_of_eq rfl) (hb hby at_8) e0 (by decide) (by decide) ?_
  intro T1 L1 v1 X1 hQ1
  obtain ⟨rfl, N1q, e1⟩ := hQ1
  have N1 := Fr.app N0 N1q
  show Own.Fin p e below (T1.setTop (mkF m 11 #[.val (.int p1), .val (.int p2), .val (.int hg), .unset, .unset, .unset, .unset, .unset, .unset] [(.int (F_def hg))])) _
  refine Own.go (fun t k => XS.istoreN X1.here hx rfl (hb hby at_11) rfl (l' := #[.val (.int p1), .val (.int p2), .val (.int hg), .val (.int (F_def hg)), .unset, .unset, .unset, .unset, .unset]) rfl k) ?_
  show Own.Fin p e below (T1.setTop (mkF m 12 #[.val (.int p1), .val (.int p2), .val (.int hg), .val (.int (F_def hg)), .unset, .unset, .unset, .unset, .unset] [])) _
  have hl0 := own_law hg hg hh.1 hh.2 hh.1 (Int.le_refl _)
  refine Own.go (fun t k => XS.iloadN X1.here hx rfl (hb hby at_12) rfl k) ?_
  show Own.Fin p e below (T1.setTop (mkF m 13 #[.val (.int p1), .val (.int p2), .val (.int hg), .val (.int (F_def hg)), .unset, .unset, .unset, .unset, .unset] [(.int (F_def hg))])) _
  refine Own.go (fun t k => XS.iconst X1.here hx rfl (hb hby at_13) k) ?_
  show Own.Fin p e below (T1.setTop (mkF m 14 #[.val (.int p1), .val (.int p2), .val (.int hg), .val (.int (F_def hg)), .unset, .unset, .unset, .unset, .unset] [(.int (1 : Int32)), (.int (F_def hg))])) _
  have hc14_1 : ¬ ((F_def hg) < (1 : Int32)) := hl0.1
  refine Own.go (fun t k => XS.icmpNo X1.here hx rfl (hb hby at_14) rfl (flt hc14_1).1 k) ?_
  show Own.Fin p e below (T1.setTop (mkF m 17 #[.val (.int p1), .val (.int p2), .val (.int hg), .val (.int (F_def hg)), .unset, .unset, .unset, .unset, .unset] [])) _
  refine Own.go (fun t k => XS.iloadN X1.here hx rfl (hb hby at_17) rfl k) ?_
  show Own.Fin p e below (T1.setTop (mkF m 18 #[.val (.int p1), .val (.int p2), .val (.int hg), .val (.int (F_def hg)), .unset, .unset, .unset, .unset, .unset] [(.int (F_def hg))])) _
  refine Own.go (fun t k => XS.iloadN X1.here hx rfl (hb hby at_18) rfl k) ?_
  show Own.Fin p e below (T1.setTop (mkF m 19 #[.val (.int p1), .val (.int p2), .val (.int hg), .val (.int (F_def hg)), .unset, .unset, .unset, .unset, .unset] [(.int hg), (.int (F_def hg))])) _
  have hc19_2 : ¬ (hg < (F_def hg)) := hl0.2.1
  refine Own.go (fun t k => XS.icmpNo X1.here hx rfl (hb hby at_19) rfl (flt hc19_2).2.2.1 k) ?_
  show Own.Fin p e below (T1.setTop (mkF m 22 #[.val (.int p1), .val (.int p2), .val (.int hg), .val (.int (F_def hg)), .unset, .unset, .unset, .unset, .unset] [])) _
  refine Own.go (fun t k => XS.iloadN X1.here hx rfl (hb hby at_22) rfl k) ?_
  show Own.Fin p e below (T1.setTop (mkF m 23 #[.val (.int p1), .val (.int p2), .val (.int hg), .val (.int (F_def hg)), .unset, .unset, .unset, .unset, .unset] [(.int hg)])) _
  refine Own.go (fun t k => XS.iloadN X1.here hx rfl (hb hby at_23) rfl k) ?_
  show Own.Fin p e below (T1.setTop (mkF m 24 #[.val (.int p1), .val (.int p2), .val (.int hg), .val (.int (F_def hg)), .unset, .unset, .unset, .unset, .unset] [(.int (F_def hg)), (.int hg)])) _
  refine Own.go (fun t k => XS.irem X1.here hx rfl (hb hby at_24) rfl hl0.2.2.1 k) ?_
  show Own.Fin p e below (T1.setTop (mkF m 25 #[.val (.int p1), .val (.int p2), .val (.int hg), .val (.int (F_def hg)), .unset, .unset, .unset, .unset, .unset] [(.int (hg - (hg / (F_def hg)) * (F_def hg)))])) _
  have hc25_3 : (hg - (hg / (F_def hg)) * (F_def hg)) = (0 : Int32) := hl0.2.2.2.1
  refine Own.go (fun t k => XS.ifYes X1.here hx rfl (pc0 := 25) (pc' := 30) rfl (hb hby at_25) rfl ((if0 _ _).trans (teq hc25_3).1) (by decide) (by decide) k) ?_
  show Own.Fin p e below (T1.setTop (mkF m 30 #[.val (.int p1), .val (.int p2), .val (.int hg), .val (.int (F_def hg)), .unset, .unset, .unset, .unset, .unset] [])) _
  refine Own.go (fun t k => XS.iconst X1.here hx rfl (hb hby at_30) k) ?_
  show Own.Fin p e below (T1.setTop (mkF m 31 #[.val (.int p1), .val (.int p2), .val (.int hg), .val (.int (F_def hg)), .unset, .unset, .unset, .unset, .unset] [(.int (1 : Int32))])) _
  refine Own.go (fun t k => XS.iloadN X1.here hx rfl (hb hby at_31) rfl k) ?_
  show Own.Fin p e below (T1.setTop (mkF m 32 #[.val (.int p1), .val (.int p2), .val (.int hg), .val (.int (F_def hg)), .unset, .unset, .unset, .unset, .unset] [(.int p2), (.int (1 : Int32))])) _
  refine Own.go (fun t k => X1.ldcInt hx hown (mvT hZ (hw _ (List.mem_of_getElem? (i := 4) rfl))) (g := (mkF m 32 #[.val (.int p1), .val (.int p2), .val (.int hg), .val (.int (F_def hg)), .unset, .unset, .unset, .unset, .unset] [(.int p2), (.int (1 : Int32))])) rfl (hb hby at_32) _ k) ?_
  show Own.Fin p e below (T1.setTop (mkF m 34 #[.val (.int p1), .val (.int p2), .val (.int hg), .val (.int (F_def hg)), .unset, .unset, .unset, .unset, .unset] [(.int (2147483647 : Int32)), (.int p2), (.int (1 : Int32))])) _
  refine Own.go (fun t k => XS.iand X1.here hx rfl (hb hby at_34) rfl k) ?_
  show Own.Fin p e below (T1.setTop (mkF m 35 #[.val (.int p1), .val (.int p2), .val (.int hg), .val (.int (F_def hg)), .unset, .unset, .unset, .unset, .unset] [(.int (p2 &&& (2147483647 : Int32))), (.int (1 : Int32))])) _
  refine Own.go (fun t k => XS.iloadN X1.here hx rfl (hb hby at_35) rfl k) ?_
  show Own.Fin p e below (T1.setTop (mkF m 36 #[.val (.int p1), .val (.int p2), .val (.int hg), .val (.int (F_def hg)), .unset, .unset, .unset, .unset, .unset] [(.int hg), (.int (p2 &&& (2147483647 : Int32))), (.int (1 : Int32))])) _
  refine Own.go (fun t k => XS.irem X1.here hx rfl (hb hby at_36) rfl (by intro q; rw [q] at hh; exact absurd hh.1 (by decide)) k) ?_
  show Own.Fin p e below (T1.setTop (mkF m 37 #[.val (.int p1), .val (.int p2), .val (.int hg), .val (.int (F_def hg)), .unset, .unset, .unset, .unset, .unset] [(.int ((p2 &&& (2147483647 : Int32)) - ((p2 &&& (2147483647 : Int32)) / hg) * hg)), (.int (1 : Int32))])) _
  refine Own.go (fun t k => XS.iadd X1.here hx rfl (hb hby at_37) rfl k) ?_
  show Own.Fin p e below (T1.setTop (mkF m 38 #[.val (.int p1), .val (.int p2), .val (.int hg), .val (.int (F_def hg)), .unset, .unset, .unset, .unset, .unset] [(.int ((1 : Int32) + ((p2 &&& (2147483647 : Int32)) - ((p2 &&& (2147483647 : Int32)) / hg) * hg)))])) _
  have hcc := own_cc p2 hg hh.1 hh.2
  generalize hcc_ : ((1 : Int32) + ((p2 &&& (2147483647 : Int32)) - ((p2 &&& (2147483647 : Int32)) / hg) * hg)) = cc
  rw [hcc_] at hcc
  have hl := own_law hg cc hh.1 hh.2 hcc.1 hcc.2
  refine Own.go (fun t k => XS.istore X1.here hx rfl (hb hby at_38) rfl (l' := #[.val (.int p1), .val (.int p2), .val (.int hg), .val (.int (F_def hg)), .val (.int cc), .unset, .unset, .unset, .unset]) rfl k) ?_
  show Own.Fin p e below (T1.setTop (mkF m 40 #[.val (.int p1), .val (.int p2), .val (.int hg), .val (.int (F_def hg)), .val (.int cc), .unset, .unset, .unset, .unset] [])) _
  refine Own.go (fun t k => XS.iloadN X1.here hx rfl (hb hby at_40) rfl k) ?_
  show Own.Fin p e below (T1.setTop (mkF m 41 #[.val (.int p1), .val (.int p2), .val (.int hg), .val (.int (F_def hg)), .val (.int cc), .unset, .unset, .unset, .unset] [(.int hg)])) _
  refine Own.go (fun t k => XS.iload X1.here hx rfl (hb hby at_41) rfl k) ?_
  show Own.Fin p e below (T1.setTop (mkF m 43 #[.val (.int p1), .val (.int p2), .val (.int hg), .val (.int (F_def hg)), .val (.int cc), .unset, .unset, .unset, .unset] [(.int cc), (.int hg)])) _
  refine Own.go (fun t k => XS.irem X1.here hx rfl (hb hby at_43) rfl hl.2.2.2.2.1 k) ?_
  show Own.Fin p e below (T1.setTop (mkF m 44 #[.val (.int p1), .val (.int p2), .val (.int hg), .val (.int (F_def hg)), .val (.int cc), .unset, .unset, .unset, .unset] [(.int (hg - (hg / cc) * cc))])) _
  by_cases hc44_4 : (hg - (hg / cc) * cc) = (0 : Int32)
  · skip
    refine Own.go (fun t k => XS.ifNo X1.here hx rfl (hb hby at_44) rfl ((if0 _ _).trans (teq hc44_4).2) k) ?_
    show Own.Fin p e below (T1.setTop (mkF m 47 #[.val (.int p1), .val (.int p2), .val (.int hg), .val (.int (F_def hg)), .val (.int cc), .unset, .unset, .unset, .unset] [])) _
    refine Own.go (fun t k => XS.iload X1.here hx rfl (hb hby at_47) rfl k) ?_
    show Own.Fin p e below (T1.setTop (mkF m 49 #[.val (.int p1), .val (.int p2), .val (.int hg), .val (.int (F_def hg)), .val (.int cc), .unset, .unset, .unset, .unset] [(.int cc)])) _
    refine Own.go (fun t k => XS.iloadN X1.here hx rfl (hb hby at_49) rfl k) ?_
    show Own.Fin p e below (T1.setTop (mkF m 50 #[.val (.int p1), .val (.int p2), .val (.int hg), .val (.int (F_def hg)), .val (.int cc), .unset, .unset, .unset, .unset] [(.int (F_def hg)), (.int cc)])) _
    by_cases hc50_5 : cc = (F_def hg)
    · skip
      refine Own.go (fun t k => XS.icmpNo X1.here hx rfl (hb hby at_50) rfl (teq hc50_5).2 k) ?_
      show Own.Fin p e below (T1.setTop (mkF m 53 #[.val (.int p1), .val (.int p2), .val (.int hg), .val (.int (F_def hg)), .val (.int cc), .unset, .unset, .unset, .unset] [])) _
      refine Own.go (fun t k => XS.iconst X1.here hx rfl (hb hby at_53) k) ?_
      show Own.Fin p e below (T1.setTop (mkF m 54 #[.val (.int p1), .val (.int p2), .val (.int hg), .val (.int (F_def hg)), .val (.int cc), .unset, .unset, .unset, .unset] [(.int (1 : Int32))])) _
      refine Own.retN X1 hx Bd.notSynchronized (t := .boolean) Bd.returns (by simp) (hb hby at_54) (by decide) (by decide) ?_
      exact ⟨rfl, N1⟩
    · skip
      refine Own.go (fun t k => XS.icmpYes X1.here hx rfl (pc0 := 50) (pc' := 55) rfl (hb hby at_50) rfl (feq hc50_5).2 (by decide) (by decide) k) ?_
      show Own.Fin p e below (T1.setTop (mkF m 55 #[.val (.int p1), .val (.int p2), .val (.int hg), .val (.int (F_def hg)), .val (.int cc), .unset, .unset, .unset, .unset] [])) _
      refine Own.go (fun t k => XS.iloadN X1.here hx rfl (hb hby at_55) rfl k) ?_
      show Own.Fin p e below (T1.setTop (mkF m 56 #[.val (.int p1), .val (.int p2), .val (.int hg), .val (.int (F_def hg)), .val (.int cc), .unset, .unset, .unset, .unset] [(.int hg)])) _
      refine Own.go (fun t k => XS.i2l X1.here hx rfl (hb hby at_56) rfl k) ?_
      show Own.Fin p e below (T1.setTop (mkF m 57 #[.val (.int p1), .val (.int p2), .val (.int hg), .val (.int (F_def hg)), .val (.int cc), .unset, .unset, .unset, .unset] [(.long ((hg).toInt64))])) _
      refine Own.go (fun t k => XS.iloadN X1.here hx rfl (hb hby at_57) rfl k) ?_
      show Own.Fin p e below (T1.setTop (mkF m 58 #[.val (.int p1), .val (.int p2), .val (.int hg), .val (.int (F_def hg)), .val (.int cc), .unset, .unset, .unset, .unset] [(.int hg), (.long ((hg).toInt64))])) _
      refine Own.go (fun t k => XS.i2l X1.here hx rfl (hb hby at_58) rfl k) ?_
      show Own.Fin p e below (T1.setTop (mkF m 59 #[.val (.int p1), .val (.int p2), .val (.int hg), .val (.int (F_def hg)), .val (.int cc), .unset, .unset, .unset, .unset] [(.long ((hg).toInt64)), (.long ((hg).toInt64))])) _
      refine Own.go (fun t k => XS.lmul X1.here hx rfl (hb hby at_59) rfl k) ?_
      show Own.Fin p e below (T1.setTop (mkF m 60 #[.val (.int p1), .val (.int p2), .val (.int hg), .val (.int (F_def hg)), .val (.int cc), .unset, .unset, .unset, .unset] [(.long (((hg).toInt64) * ((hg).toInt64)))])) _
      refine Own.go (fun t k => XS.lstore X1.here hx rfl (hb hby at_60) rfl (l' := #[.val (.int p1), .val (.int p2), .val (.int hg), .val (.int (F_def hg)), .val (.int cc), .val (.long (((hg).toInt64) * ((hg).toInt64))), .second, .unset, .unset]) rfl k) ?_
      show Own.Fin p e below (T1.setTop (mkF m 62 #[.val (.int p1), .val (.int p2), .val (.int hg), .val (.int (F_def hg)), .val (.int cc), .val (.long (((hg).toInt64) * ((hg).toInt64))), .second, .unset, .unset] [])) _
      refine Own.go (fun t k => XS.lconst X1.here hx rfl (hb hby at_62) k) ?_
      show Own.Fin p e below (T1.setTop (mkF m 63 #[.val (.int p1), .val (.int p2), .val (.int hg), .val (.int (F_def hg)), .val (.int cc), .val (.long (((hg).toInt64) * ((hg).toInt64))), .second, .unset, .unset] [(.long (1 : Int64))])) _
      refine Own.go (fun t k => XS.iload X1.here hx rfl (hb hby at_63) rfl k) ?_
      show Own.Fin p e below (T1.setTop (mkF m 65 #[.val (.int p1), .val (.int p2), .val (.int hg), .val (.int (F_def hg)), .val (.int cc), .val (.long (((hg).toInt64) * ((hg).toInt64))), .second, .unset, .unset] [(.int cc), (.long (1 : Int64))])) _
      refine Own.go (fun t k => XS.iloadN X1.here hx rfl (hb hby at_65) rfl k) ?_
      show Own.Fin p e below (T1.setTop (mkF m 66 #[.val (.int p1), .val (.int p2), .val (.int hg), .val (.int (F_def hg)), .val (.int cc), .val (.long (((hg).toInt64) * ((hg).toInt64))), .second, .unset, .unset] [(.int (F_def hg)), (.int cc), (.long (1 : Int64))])) _
      refine Own.go (fun t k => XS.iadd X1.here hx rfl (hb hby at_66) rfl k) ?_
      show Own.Fin p e below (T1.setTop (mkF m 67 #[.val (.int p1), .val (.int p2), .val (.int hg), .val (.int (F_def hg)), .val (.int cc), .val (.long (((hg).toInt64) * ((hg).toInt64))), .second, .unset, .unset] [(.int (cc + (F_def hg))), (.long (1 : Int64))])) _
      refine Own.go (fun t k => XS.lshl X1.here hx rfl (hb hby at_67) rfl k) ?_
      show Own.Fin p e below (T1.setTop (mkF m 68 #[.val (.int p1), .val (.int p2), .val (.int hg), .val (.int (F_def hg)), .val (.int cc), .val (.long (((hg).toInt64) * ((hg).toInt64))), .second, .unset, .unset] [(.long (((1 : Int64) <<< ((cc + (F_def hg)) &&& 0x3f).toInt64)))])) _
      refine Own.go (fun t k => XS.lstore X1.here hx rfl (hb hby at_68) rfl (l' := #[.val (.int p1), .val (.int p2), .val (.int hg), .val (.int (F_def hg)), .val (.int cc), .val (.long (((hg).toInt64) * ((hg).toInt64))), .second, .val (.long (((1 : Int64) <<< ((cc + (F_def hg)) &&& 0x3f).toInt64))), .second]) rfl k) ?_
      show Own.Fin p e below (T1.setTop (mkF m 70 #[.val (.int p1), .val (.int p2), .val (.int hg), .val (.int (F_def hg)), .val (.int cc), .val (.long (((hg).toInt64) * ((hg).toInt64))), .second, .val (.long (((1 : Int64) <<< ((cc + (F_def hg)) &&& 0x3f).toInt64))), .second] [])) _
      refine Own.go (fun t k => XS.iload X1.here hx rfl (hb hby at_70) rfl k) ?_
      show Own.Fin p e below (T1.setTop (mkF m 72 #[.val (.int p1), .val (.int p2), .val (.int hg), .val (.int (F_def hg)), .val (.int cc), .val (.long (((hg).toInt64) * ((hg).toInt64))), .second, .val (.long (((1 : Int64) <<< ((cc + (F_def hg)) &&& 0x3f).toInt64))), .second] [(.int cc)])) _
      refine Own.go (fun t k => XS.iloadN X1.here hx rfl (hb hby at_72) rfl k) ?_
      show Own.Fin p e below (T1.setTop (mkF m 73 #[.val (.int p1), .val (.int p2), .val (.int hg), .val (.int (F_def hg)), .val (.int cc), .val (.long (((hg).toInt64) * ((hg).toInt64))), .second, .val (.long (((1 : Int64) <<< ((cc + (F_def hg)) &&& 0x3f).toInt64))), .second] [(.int (F_def hg)), (.int cc)])) _
      by_cases hc73_6 : (F_def hg) < cc
      · skip
        refine Own.go (fun t k => XS.icmpNo X1.here hx rfl (hb hby at_73) rfl (tlt hc73_6).2.2.2 k) ?_
        show Own.Fin p e below (T1.setTop (mkF m 76 #[.val (.int p1), .val (.int p2), .val (.int hg), .val (.int (F_def hg)), .val (.int cc), .val (.long (((hg).toInt64) * ((hg).toInt64))), .second, .val (.long (((1 : Int64) <<< ((cc + (F_def hg)) &&& 0x3f).toInt64))), .second] [])) _
        refine Own.go (fun t k => XS.lload X1.here hx rfl (hb hby at_76) rfl k) ?_
        show Own.Fin p e below (T1.setTop (mkF m 78 #[.val (.int p1), .val (.int p2), .val (.int hg), .val (.int (F_def hg)), .val (.int cc), .val (.long (((hg).toInt64) * ((hg).toInt64))), .second, .val (.long (((1 : Int64) <<< ((cc + (F_def hg)) &&& 0x3f).toInt64))), .second] [(.long (((hg).toInt64) * ((hg).toInt64)))])) _
        refine Own.go (fun t k => XS.lload X1.here hx rfl (hb hby at_78) rfl k) ?_
        show Own.Fin p e below (T1.setTop (mkF m 80 #[.val (.int p1), .val (.int p2), .val (.int hg), .val (.int (F_def hg)), .val (.int cc), .val (.long (((hg).toInt64) * ((hg).toInt64))), .second, .val (.long (((1 : Int64) <<< ((cc + (F_def hg)) &&& 0x3f).toInt64))), .second] [(.long (((1 : Int64) <<< ((cc + (F_def hg)) &&& 0x3f).toInt64))), (.long (((hg).toInt64) * ((hg).toInt64)))])) _
        refine Own.go (fun t k => XS.lcmp X1.here hx rfl (hb hby at_80) rfl k) ?_
        show Own.Fin p e below (T1.setTop (mkF m 81 #[.val (.int p1), .val (.int p2), .val (.int hg), .val (.int (F_def hg)), .val (.int cc), .val (.long (((hg).toInt64) * ((hg).toInt64))), .second, .val (.long (((1 : Int64) <<< ((cc + (F_def hg)) &&& 0x3f).toInt64))), .second] [(.int (lcmpW (((hg).toInt64) * ((hg).toInt64)) (((1 : Int64) <<< ((cc + (F_def hg)) &&& 0x3f).toInt64))))])) _
        have hc81_7 : ¬ ((0 : Int32) < (lcmpW (((hg).toInt64) * ((hg).toInt64)) (((1 : Int64) <<< ((cc + (F_def hg)) &&& 0x3f).toInt64)))) := (hl.2.2.2.2.2 hc44_4 hc50_5).1 hc73_6
        refine Own.go (fun t k => XS.ifNo X1.here hx rfl (hb hby at_81) rfl ((if0 _ _).trans (flt hc81_7).2.2.1) k) ?_
        show Own.Fin p e below (T1.setTop (mkF m 84 #[.val (.int p1), .val (.int p2), .val (.int hg), .val (.int (F_def hg)), .val (.int cc), .val (.long (((hg).toInt64) * ((hg).toInt64))), .second, .val (.long (((1 : Int64) <<< ((cc + (F_def hg)) &&& 0x3f).toInt64))), .second] [])) _
        refine Own.go (fun t k => XS.iconst X1.here hx rfl (hb hby at_84) k) ?_
        show Own.Fin p e below (T1.setTop (mkF m 85 #[.val (.int p1), .val (.int p2), .val (.int hg), .val (.int (F_def hg)), .val (.int cc), .val (.long (((hg).toInt64) * ((hg).toInt64))), .second, .val (.long (((1 : Int64) <<< ((cc + (F_def hg)) &&& 0x3f).toInt64))), .second] [(.int (1 : Int32))])) _
        refine Own.go (fun t k => XS.goto X1.here hx rfl (pc0 := 85) (pc' := 89) rfl (hb hby at_85) (by decide) (by decide) k) ?_
        show Own.Fin p e below (T1.setTop (mkF m 89 #[.val (.int p1), .val (.int p2), .val (.int hg), .val (.int (F_def hg)), .val (.int cc), .val (.long (((hg).toInt64) * ((hg).toInt64))), .second, .val (.long (((1 : Int64) <<< ((cc + (F_def hg)) &&& 0x3f).toInt64))), .second] [(.int (1 : Int32))])) _
        refine Own.retN X1 hx Bd.notSynchronized (t := .boolean) Bd.returns (by simp) (hb hby at_89) (by decide) (by decide) ?_
        exact ⟨rfl, N1⟩
      · skip
        refine Own.go (fun t k => XS.icmpYes X1.here hx rfl (pc0 := 73) (pc' := 90) rfl (hb hby at_73) rfl (flt hc73_6).2.2.2 (by decide) (by decide) k) ?_
        show Own.Fin p e below (T1.setTop (mkF m 90 #[.val (.int p1), .val (.int p2), .val (.int hg), .val (.int (F_def hg)), .val (.int cc), .val (.long (((hg).toInt64) * ((hg).toInt64))), .second, .val (.long (((1 : Int64) <<< ((cc + (F_def hg)) &&& 0x3f).toInt64))), .second] [])) _
        refine Own.go (fun t k => XS.lload X1.here hx rfl (hb hby at_90) rfl k) ?_
        show Own.Fin p e below (T1.setTop (mkF m 92 #[.val (.int p1), .val (.int p2), .val (.int hg), .val (.int (F_def hg)), .val (.int cc), .val (.long (((hg).toInt64) * ((hg).toInt64))), .second, .val (.long (((1 : Int64) <<< ((cc + (F_def hg)) &&& 0x3f).toInt64))), .second] [(.long (((hg).toInt64) * ((hg).toInt64)))])) _
        refine Own.go (fun t k => XS.lload X1.here hx rfl (hb hby at_92) rfl k) ?_
        show Own.Fin p e below (T1.setTop (mkF m 94 #[.val (.int p1), .val (.int p2), .val (.int hg), .val (.int (F_def hg)), .val (.int cc), .val (.long (((hg).toInt64) * ((hg).toInt64))), .second, .val (.long (((1 : Int64) <<< ((cc + (F_def hg)) &&& 0x3f).toInt64))), .second] [(.long (((1 : Int64) <<< ((cc + (F_def hg)) &&& 0x3f).toInt64))), (.long (((hg).toInt64) * ((hg).toInt64)))])) _
        refine Own.go (fun t k => XS.lcmp X1.here hx rfl (hb hby at_94) rfl k) ?_
        show Own.Fin p e below (T1.setTop (mkF m 95 #[.val (.int p1), .val (.int p2), .val (.int hg), .val (.int (F_def hg)), .val (.int cc), .val (.long (((hg).toInt64) * ((hg).toInt64))), .second, .val (.long (((1 : Int64) <<< ((cc + (F_def hg)) &&& 0x3f).toInt64))), .second] [(.int (lcmpW (((hg).toInt64) * ((hg).toInt64)) (((1 : Int64) <<< ((cc + (F_def hg)) &&& 0x3f).toInt64))))])) _
        have hc95_8 : (0 : Int32) < (lcmpW (((hg).toInt64) * ((hg).toInt64)) (((1 : Int64) <<< ((cc + (F_def hg)) &&& 0x3f).toInt64))) := (hl.2.2.2.2.2 hc44_4 hc50_5).2 hc73_6
        refine Own.go (fun t k => XS.ifNo X1.here hx rfl (hb hby at_95) rfl ((if0 _ _).trans (tlt hc95_8).2.2.2) k) ?_
        show Own.Fin p e below (T1.setTop (mkF m 98 #[.val (.int p1), .val (.int p2), .val (.int hg), .val (.int (F_def hg)), .val (.int cc), .val (.long (((hg).toInt64) * ((hg).toInt64))), .second, .val (.long (((1 : Int64) <<< ((cc + (F_def hg)) &&& 0x3f).toInt64))), .second] [])) _
        refine Own.go (fun t k => XS.iconst X1.here hx rfl (hb hby at_98) k) ?_
        show Own.Fin p e below (T1.setTop (mkF m 99 #[.val (.int p1), .val (.int p2), .val (.int hg), .val (.int (F_def hg)), .val (.int cc), .val (.long (((hg).toInt64) * ((hg).toInt64))), .second, .val (.long (((1 : Int64) <<< ((cc + (F_def hg)) &&& 0x3f).toInt64))), .second] [(.int (1 : Int32))])) _
        refine Own.go (fun t k => XS.goto X1.here hx rfl (pc0 := 99) (pc' := 103) rfl (hb hby at_99) (by decide) (by decide) k) ?_
        show Own.Fin p e below (T1.setTop (mkF m 103 #[.val (.int p1), .val (.int p2), .val (.int hg), .val (.int (F_def hg)), .val (.int cc), .val (.long (((hg).toInt64) * ((hg).toInt64))), .second, .val (.long (((1 : Int64) <<< ((cc + (F_def hg)) &&& 0x3f).toInt64))), .second] [(.int (1 : Int32))])) _
        refine Own.retN X1 hx Bd.notSynchronized (t := .boolean) Bd.returns (by simp) (hb hby at_103) (by decide) (by decide) ?_
        exact ⟨rfl, N1⟩
  · skip
    refine Own.go (fun t k => XS.ifYes X1.here hx rfl (pc0 := 44) (pc' := 53) rfl (hb hby at_44) rfl ((if0 _ _).trans (feq hc44_4).2) (by decide) (by decide) k) ?_
    show Own.Fin p e below (T1.setTop (mkF m 53 #[.val (.int p1), .val (.int p2), .val (.int hg), .val (.int (F_def hg)), .val (.int cc), .unset, .unset, .unset, .unset] [])) _
    refine Own.go (fun t k => XS.iconst X1.here hx rfl (hb hby at_53) k) ?_
    show Own.Fin p e below (T1.setTop (mkF m 54 #[.val (.int p1), .val (.int p2), .val (.int hg), .val (.int (F_def hg)), .val (.int cc), .unset, .unset, .unset, .unset] [(.int (1 : Int32))])) _
    refine Own.retN X1 hx Bd.notSynchronized (t := .boolean) Bd.returns (by simp) (hb hby at_54) (by decide) (by decide) ?_
    exact ⟨rfl, N1⟩
set_option maxRecDepth 65536 in
set_option maxHeartbeats 40000000 in
theorem comes_1 {Post : Tables → Env → Array Value → State → Outcome → State → Prop} (hpost : ∀ tb e args s v u, (limb_1_1.after args s (.returned v) u = true ∧ limb_1_2.after args s (.returned v) u = true ∧ True) → FrameEnd s (.returned v) u (Jvm.fieldLocs frame_1_writes args s ++ Jvm.arrayLocs frame_1_arrays args s ++ Jvm.staticLocs frame_1_statics s) 0 0 → Post tb e args s (.returned v) u) :
    ArmFor flags0 classFile x code maxLocals ret World_1 tables_1 room_1 Calls_1 rest_1 Pre_1 Post := by
  intro l hfl _ _ p e ha hc hk s m args below hf hA hF happ hP
  obtain ⟨hcalls, hrest, hpre⟩ := hP
  obtain ⟨-, -, -, hnamed, -, -, -, hat⟩ := (Spec.applies_iff hf).mp happ
  obtain ⟨hg, hn⟩ := and_e (Cond.before_iff.mp (show (Jvm.Cond.and given_1 narrow_1).before args s = true from hpre))
  obtain ⟨g1, g2⟩ := and_e hg
  obtain ⟨g3, g4⟩ := and_e g2
  obtain ⟨w0, w1, rfl⟩ : ∃ w0 w1 : Value, args = #[w0, w1] := by
    have hs : args.size = 2 := by simpa [Cond.value, given_1] using g1
    obtain ⟨L⟩ := args
    match L, hs with
    | [w0, w1], _ => exact ⟨w0, w1, rfl⟩
  have hw := fun d (hd : d ∈ tables_1) => atoms_spec (ws := Jvm.Cond.code x code maxLocals ret :: tables_1) hat d (List.mem_cons_of_mem _ hd)
  have hfit : Fit s := fun {y c} hc i hi => by
    obtain ⟨ha, rfl⟩ := Array.getElem?_eq_some_iff.mp hc
    have q := List.all_eq_true.mp ((Array.all_eq_true_iff_forall_mem.mp hF) _ (Array.getElem_mem ha)) i (List.mem_range.mpr hi)
    simpa [Array.getElem?_eq_getElem hi] using q
  obtain ⟨i0, ei0⟩ := is_v g3
  obtain rfl : w0 = (.int i0) := Option.some.inj ei0
  obtain ⟨i1, ei1⟩ := is_v g4
  obtain rfl : w1 = (.int i1) := Option.some.inj ei1
  obtain ⟨n, o, h1, h2, h3, _, L, rfl, ⟨rfl, N⟩, hq⟩ := rm0 l s _ hw tables_1 i0 i1 s.heap s.heap.size (Nat.le_refl _)  p e ha hc hk s m _ below hf ((Spec.applies_iff_loose hf).mp happ).1 ⟨rfl, State.Warmed39.refl s, rfl⟩ trivial
  refine ⟨n, _, h1, h2, h3, hpost _ _ _ _ _ _ ⟨Cond.after_iff.mpr rfl, Cond.after_iff.mpr (eq_i res_at (Term.int_eval (1)) rfl), trivial⟩ ⟨hq.1, hq.2.1, (hq.2.2.sift fun y hy => Or.inr (N y hy)).mono (by decide) (by decide)⟩⟩
theorem main_1_1 : Claimed_1_1 := comes_1 fun _ _ _ _ _ _ h hF => ⟨h.1, hF⟩
theorem main_1_2 : Claimed_1_2 := comes_1 fun _ _ _ _ _ _ h hF => ⟨h.2.1, hF⟩
end Jvm.Pilot.@@N@@
namespace Jvm.Pilot.@@N@@
open Jvm Jvm.ClassFile Sem Op Lib Jvm.Free Jvm.Stand Jvm.Pilot.@@N@@.Jvm.D
/-! MADE BY PROGRAM (witnessworld.py) out of the Statement's table words and the real class files: 9 classes; the members and pool entries that the words name. The judged class is class 1, her method 1. -/
namespace start1
open Jvm.ClassFile
def u (s : String) : CpInfo := .utf8 (stringToUtf16 s)
/-- a pool by its gaps: so many unusable entries, then the entry; so many at the end -/
def gap : Nat → List CpInfo → List CpInfo
  | 0, r => r
  | n + 1, r => .unusable :: gap n r
def poolList (es : List (Nat × CpInfo)) (last : Nat) : List CpInfo := es.foldr (fun e r => gap e.1 (e.2 :: r)) (gap last [])
def pool (es : List (Nat × CpInfo)) (last : Nat) : Array CpInfo := ⟨poolList es last⟩
def fileOf (pool : Array CpInfo) (this : Nat) (attrs : Array Attribute := #[]) (ms : Array MethodInfo := #[]) (fl : Nat := 33) (sup : Nat := 0) (ifs : Array Nat := #[]) (fds : Array FieldInfo := #[]) : ClassFile where
  minorVersion := 0
  majorVersion := 65
  constantPool := pool
  accessFlags := fl
  thisClass := this
  superClass := sup
  interfaces := ifs
  fields := fds
  methods := ms
  attributes := attrs
def plain (name : String) (sup : Option ClassId) : Class where
  name := name
  kind := .ordinary
  loader := none
  accessFlags := 33
  super := sup
  interfaces := #[]
  cf := none
  fields := #[]
  methods := #[]
  instanceTypes := #[]
  staticTypes := #[]
  resolved := #[]
  callSites := []
  init := .initialized
  statics := none
  mirror := none

def pool0 : Array CpInfo := pool [(5, u "<init>"), (0, u "()V"), (1, .class_ 10), (1, u "java/lang/Object")] 113

def k0m0 : Method := { name := "<init>", desc := "()V", sig := { parameters := [], returnType := none }, accessFlags := 1, code := none }
/-- java/lang/Object -/
def k0 : Class := { plain "java/lang/Object" none with
  accessFlags := 33
  interfaces := #[]
  cf := some (fileOf pool0 8 #[] #[{ accessFlags := 1, nameIndex := 5, descriptorIndex := 6, attributes := #[] }] 33 0 #[] #[])
  fields := #[]
  methods := #[k0m0]
  instanceTypes := #[]
  staticTypes := #[]
  resolved := Array.replicate 124 none
  statics := none }

def pool1 : Array CpInfo := pool [(2, .class_ 4), (1, u "java/lang/Object"), (0, u "<init>"), (0, u "()V"), (0, .methodref 8 9), (0, .class_ 10), (0, .nameAndType 11 12), (0, u "com/example/treadle/treadle/MerkleTraversal"), (0, u "defaultSubtree"), (0, u "(I)I"), (0, .integer 2147483647), (0, .class_ 15), (0, u "com/example/treadle/treadle/MerkleTraversalDefaultSubtreePinLaw"), (2, u "law"), (0, u "(II)Z")] 3

def k1m0 : Method := { name := "<init>", desc := "()V", sig := { parameters := [], returnType := none }, accessFlags := 1, code := none }
def k1c1 : Code := { maxStack := 4, maxLocals := 9, code := code, exceptionTable := #[], attributes := #[] }
def k1m1 : Method := { name := "law", desc := "(II)Z", sig := { parameters := [.int, .int], returnType := some .boolean }, accessFlags := 9, code := some k1c1 }
/-- com/example/treadle/treadle/MerkleTraversalDefaultSubtreePinLaw -/
def k1 : Class := { plain "com/example/treadle/treadle/MerkleTraversalDefaultSubtreePinLaw" (some 0) with
  accessFlags := 49
  interfaces := #[]
  cf := some (fileOf pool1 14 #[] #[{ accessFlags := 1, nameIndex := 5, descriptorIndex := 6, attributes := #[] }, { accessFlags := 9, nameIndex := 18, descriptorIndex := 19, attributes := #[] }] 49 2 #[] #[])
  fields := #[]
  methods := #[k1m0, k1m1]
  instanceTypes := #[]
  staticTypes := #[]
  resolved := Array.replicate 23 none
  statics := none }

def pool2 : Array CpInfo := pool [(2, .class_ 4), (1, u "java/lang/Object"), (6, .class_ 13), (1, u "com/example/treadle/treadle/MerkleTraversal"), (0, u "lowerStack"), (0, u "Lcom/example/treadle/treadle/TreeHash$Stack;"), (2, u "tree"), (0, u "Lcom/example/treadle/treadle/MerkleTree;"), (4, u "height"), (3, u "I"), (2, u "subtree"), (0, .class_ 33), (0, u "com/example/treadle/treadle/MerkleTraversal$Level"), (2, u "levels"), (0, u "[Lcom/example/treadle/treadle/MerkleTraversal$Level;"), (4, u "[B"), (2, u "path"), (0, u "[[B"), (11, .class_ 60), (1, u "com/example/treadle/treadle/MerkleTraversal$Generation"), (69, u "leaf"), (2, u "root"), (10, u "leftPathNodes"), (6, u "leftLeaves"), (0, u "Lcom/example/treadle/treadle/MerkleTree$Leaves;"), (69, u "maxStored"), (2, u "maxStoredBytes"), (0, u "J"), (18, u "(I)I"), (70, u "$assertionsDisabled"), (0, u "Z"), (40, u "defaultSubtree")] 69

def k2c0 : Code := { maxStack := 6, maxLocals := 3, code := prog_29_method_5_code, exceptionTable := #[], attributes := #[] }
def k2m0 : Method := { name := "defaultSubtree", desc := "(I)I", sig := { parameters := [.int], returnType := some .int }, accessFlags := 8, code := some k2c0 }
/-- com/example/treadle/treadle/MerkleTraversal -/
def k2 : Class := { plain "com/example/treadle/treadle/MerkleTraversal" (some 0) with
  accessFlags := 48
  interfaces := #[]
  cf := some (fileOf pool2 11 #[.nestMembers #[32, 58]] #[{ accessFlags := 8, nameIndex := 358, descriptorIndex := 245, attributes := #[] }] 48 2 #[] #[{ accessFlags := 18, nameIndex := 18, descriptorIndex := 19, attributes := #[] }, { accessFlags := 18, nameIndex := 24, descriptorIndex := 28, attributes := #[] }, { accessFlags := 18, nameIndex := 31, descriptorIndex := 28, attributes := #[] }, { accessFlags := 18, nameIndex := 36, descriptorIndex := 37, attributes := #[] }, { accessFlags := 18, nameIndex := 14, descriptorIndex := 15, attributes := #[] }, { accessFlags := 18, nameIndex := 45, descriptorIndex := 46, attributes := #[] }, { accessFlags := 2, nameIndex := 133, descriptorIndex := 42, attributes := #[] }, { accessFlags := 2, nameIndex := 130, descriptorIndex := 28, attributes := #[] }, { accessFlags := 2, nameIndex := 151, descriptorIndex := 152, attributes := #[] }, { accessFlags := 2, nameIndex := 144, descriptorIndex := 28, attributes := #[] }, { accessFlags := 2, nameIndex := 222, descriptorIndex := 28, attributes := #[] }, { accessFlags := 2, nameIndex := 225, descriptorIndex := 226, attributes := #[] }, { accessFlags := 4120, nameIndex := 316, descriptorIndex := 317, attributes := #[] }])
  fields := #[{ name := "tree", type := (.object "com/example/treadle/treadle/MerkleTree"), accessFlags := 18, slot := 0, constantValue := 0 }, { name := "height", type := .int, accessFlags := 18, slot := 1, constantValue := 0 }, { name := "subtree", type := .int, accessFlags := 18, slot := 2, constantValue := 0 }, { name := "levels", type := (.array (.object "com/example/treadle/treadle/MerkleTraversal$Level")), accessFlags := 18, slot := 3, constantValue := 0 }, { name := "lowerStack", type := (.object "com/example/treadle/treadle/TreeHash$Stack"), accessFlags := 18, slot := 4, constantValue := 0 }, { name := "path", type := (.array (.array .byte)), accessFlags := 18, slot := 5, constantValue := 0 }, { name := "root", type := (.array .byte), accessFlags := 2, slot := 6, constantValue := 0 }, { name := "leaf", type := .int, accessFlags := 2, slot := 7, constantValue := 0 }, { name := "leftLeaves", type := (.object "com/example/treadle/treadle/MerkleTree$Leaves"), accessFlags := 2, slot := 8, constantValue := 0 }, { name := "leftPathNodes", type := .int, accessFlags := 2, slot := 9, constantValue := 0 }, { name := "maxStored", type := .int, accessFlags := 2, slot := 10, constantValue := 0 }, { name := "maxStoredBytes", type := .long, accessFlags := 2, slot := 11, constantValue := 0 }, { name := "$assertionsDisabled", type := .boolean, accessFlags := 4120, slot := 0, constantValue := 0 }]
  methods := #[k2m0]
  instanceTypes := #[(.object "com/example/treadle/treadle/MerkleTree"), .int, .int, (.array (.object "com/example/treadle/treadle/MerkleTraversal$Level")), (.object "com/example/treadle/treadle/TreeHash$Stack"), (.array (.array .byte)), (.array .byte), .int, (.object "com/example/treadle/treadle/MerkleTree$Leaves"), .int, .int, .long]
  staticTypes := #[.boolean]
  resolved := Array.replicate 428 none
  statics := none }

def pool3 : Array CpInfo := pool [(1, u "java/lang/Cloneable"), (0, .class_ 1), (0, u "java/lang/Object"), (0, .class_ 3)] 3

/-- java/lang/Cloneable -/
def k3 : Class := { plain "java/lang/Cloneable" (some 0) with
  accessFlags := 1537
  interfaces := #[]
  cf := some (fileOf pool3 2 #[] #[] 1537 4 #[] #[])
  fields := #[]
  methods := #[]
  instanceTypes := #[]
  staticTypes := #[]
  resolved := Array.replicate 8 none
  statics := none }

def pool4 : Array CpInfo := pool [(1, u "java/io/Serializable"), (0, .class_ 1), (0, u "java/lang/Object"), (0, .class_ 3)] 3

/-- java/io/Serializable -/
def k4 : Class := { plain "java/io/Serializable" (some 0) with
  accessFlags := 1537
  interfaces := #[]
  cf := some (fileOf pool4 2 #[] #[] 1537 4 #[] #[])
  fields := #[]
  methods := #[]
  instanceTypes := #[]
  staticTypes := #[]
  resolved := Array.replicate 8 none
  statics := none }

/-- the primitive byte -/
def k5 : Class := { plain "byte" none with kind := .primitive 'B', accessFlags := 0x411 }
/-- [B -/
def k6 : Class := { plain "[B" (some 0) with kind := .array 5 .byte, interfaces := #[3, 4], accessFlags := 1041 }

/-- the primitive int -/
def k7 : Class := { plain "int" none with kind := .primitive 'I', accessFlags := 0x411 }
/-- [I -/
def k8 : Class := { plain "[I" (some 0) with kind := .array 7 .int, interfaces := #[3, 4], accessFlags := 1041 }

def heap : Heap := #[]
def classes : Array Class := #[k0, k1, k2, k3, k4, k5, k6, k7, k8]
def interned : List (Array UInt16 × Addr) := []
def slotsUsed : Nat := 0
def theMethod : MethodId := ⟨1, 1⟩
def args0 : Array Value := #[.int 5, .int 7]
def aboutOver (below : List Frame) : State where
  vm := { classes := classes, interned := interned.toArray }
  heap := heap
  slotsUsed := slotsUsed
  threads := #[{ frames := .invoking theMethod args0 :: below }]
def below0 : List Frame := [.native { method := ⟨0, 0⟩, args := #[] }]
def about1 : State := aboutOver below0
def p0 : Program := .bare "" "" ""
def e0 : Env := launch0.env 0 0 0
theorem w_frames : about1.frames = Frame.invoking theMethod args0 :: below0 := rfl
set_option maxRecDepth 65536 in
theorem w_args : argsFit about1.vm theMethod args0 = true := by decide +kernel
set_option maxRecDepth 65536 in
theorem w_heap : heapFits about1 = true := by decide +kernel
set_option maxRecDepth 65536 in
theorem w_runnable : about1.curStatus? = some .runnable := by decide +kernel
set_option maxRecDepth 65536 in
theorem w_alone : about1.alone = true := by decide +kernel
set_option maxRecDepth 65536 in
theorem w_named : about1.methodNamed? x = some theMethod := by decide +kernel
set_option maxRecDepth 65536 in
theorem w_hears : about1.hears theMethod below0 = true := by decide +kernel
set_option maxRecDepth 65536 in
theorem w_ripe : about1.ripe theMethod args0 below0 = true := by decide +kernel
theorem w_running : about1.status = .running := rfl
set_option maxRecDepth 65536 in
theorem w_room : about1.hasRoom e0.platform room_1 = true :=
  launch0.hasRoom_least _ room_1 (by decide +kernel) (by decide +kernel) (by decide +kernel) (by decide +kernel) (by decide +kernel) (by decide +kernel)
theorem allAtoms_all (ts : List Jvm.Cond) (a : Array Jvm.Value) (st : Jvm.State) : (allAtoms ts).before a st = ts.all (fun c => c.before a st) := by
  induction ts with
  | nil => rfl
  | cons c t ih =>
    show (Jvm.Cond.and c (allAtoms t)).before a st = _
    rw [Jvm.Cond.before_and, ih, List.all_cons]
def words1 : List Jvm.Cond := Jvm.Cond.code x code maxLocals ret :: tables_1
/-- a 'code' word, met by the world's own term for the bytes: nothing is compared byte by byte -/
theorem code_word {y : MethodName} {bytes : ByteArray} {mx : Nat} {rt : Option FieldType} {a : Array Value} {s : State} {m : MethodId} {meth : Method} {c : Code} (h1 : s.methodNamed? y = some m) (h2 : s.vm.method? m = some meth) (h3 : meth.code = some c) (h4 : c.code = bytes)
    (h5 : (c.maxLocals == mx && c.exceptionTable.isEmpty && decide (c.maxStack ≤ mostOperands) && decide (meth.sig.returnType = rt) && !meth.locks && decide (parseMethodDescriptor y.desc = some meth.sig)) = true) : (Jvm.Cond.code y bytes mx rt).before a s = true := by
  simp only [Bool.and_eq_true, beq_iff_eq, Bool.not_eq_true', decide_eq_true_eq] at h5
  obtain ⟨⟨⟨⟨⟨g1, g2⟩, g3⟩, g4⟩, g5⟩, g6⟩ := h5
  simp [Cond.before, Cond.holds, Cond.value, h1, h2, h3, h4, g1, g2, g3, g4, g5, g6]
def isCode : Jvm.Cond → Bool
  | .code _ _ _ _ => true
  | _ => false
theorem all_split {L : List Jvm.Cond} {P : Jvm.Cond → Bool} (h1 : L.all (fun c => isCode c || P c) = true) (h2 : ∀ c ∈ L.filter isCode, P c = true) : L.all P = true := by
  refine List.all_eq_true.mpr fun c hc => ?_
  have h := List.all_eq_true.mp h1 c hc
  rcases Bool.eq_false_or_eq_true (isCode c) with hi | hi
  · exact h2 c (List.mem_filter.mpr ⟨hc, hi⟩)
  · simpa [hi] using h
set_option maxRecDepth 65536 in
theorem w_c0 : (Jvm.Cond.code x code maxLocals ret).before args0 about1 = true := code_word (m := ⟨1, 1⟩) (meth := k1m1) (c := k1c1) (by decide +kernel) rfl rfl rfl (by decide +kernel)
set_option maxRecDepth 65536 in
theorem w_c1 : (Jvm.Cond.code ({ cls := "com/example/treadle/treadle/MerkleTraversal", name := "defaultSubtree", desc := "(I)I" } : Jvm.MethodName) prog_29_method_5_code (3 : Nat) (Option.some Jvm.ClassFile.FieldType.int)).before args0 about1 = true := code_word (m := ⟨2, 0⟩) (meth := k2m0) (c := k2c0) (by decide +kernel) rfl rfl rfl (by decide +kernel)
def codes1 : List Jvm.Cond := [Jvm.Cond.code x code maxLocals ret, Jvm.Cond.code ({ cls := "com/example/treadle/treadle/MerkleTraversal", name := "defaultSubtree", desc := "(I)I" } : Jvm.MethodName) prog_29_method_5_code (3 : Nat) (Option.some Jvm.ClassFile.FieldType.int)]
set_option maxRecDepth 65536 in
theorem codes_eq : words1.filter isCode = codes1 := rfl
theorem w_codes : ∀ c ∈ words1.filter isCode, c.before args0 about1 = true := by
  rw [codes_eq]
  intro c hc
  simp only [codes1, List.mem_cons, List.not_mem_nil, or_false] at hc
  rcases hc with rfl | rfl
  · exact w_c0
  · exact w_c1
set_option maxRecDepth 65536 in
theorem w_t1 : words1.all (fun c => isCode c || c.before args0 about1) = true := by decide +kernel
theorem w_tables : (allAtoms (Jvm.Cond.code x code maxLocals ret :: tables_1)).before args0 about1 = true := by
  rw [allAtoms_all]
  show words1.all (fun c => c.before args0 about1) = true
  refine all_split ?_ w_codes
  rw [w_t1]
set_option maxRecDepth 65536 in
theorem w_case : (Jvm.Cond.and given_1 narrow_1).before args0 about1 = true := by decide +kernel
theorem w_applies : (headSpec (Jvm.Cond.code x code maxLocals ret :: tables_1) room_1).applies x e0.platform about1 = true :=
  (Spec.applies_iff w_frames).mpr ⟨w_running, w_runnable, w_alone, w_named, w_hears, w_ripe, w_room, w_tables⟩
theorem atStart : AtStart classFile x code maxLocals ret World_1 tables_1 room_1 Calls_1 rest_1 Pre_1 launch0 p0 e0 about1 theMethod args0 below0 :=
  ⟨lists_1, trivial, launch0.admits_env _ _ _, launch0.least_env, fairChoices_fair.cas, fairChoices_fair.clock, w_frames, w_args, w_heap, w_applies, trivial, trivial, w_case⟩
end start1
theorem witness_1 : WitnessClaimed_1 := ⟨start1.p0, start1.e0, start1.about1, start1.theMethod, start1.args0, start1.below0, start1.atStart⟩
end Jvm.Pilot.@@N@@
