import JvmDerived
import JvmDerived.Pilot.@@N@@Statement
import JvmDerived.Pilot.@@N@@Code
set_option linter.unusedVariables false
set_option linter.unusedSimpArgs false
namespace Jvm.Pilot.@@N@@
open Jvm Jvm.ClassFile Sem Op Lib Jvm.Free Jvm.Stand Jvm.LawKit Jvm.RoadKit Bundle Jvm.Pilot.@@N@@.Jvm.D
section Own
variable {p : Program} {l : Launch} {e : Env} {R : Room} {s : State} {m : MethodId} {args : Array Value} {below : List Frame} {meth : Method} {c : Code} {T T' Z : State} {locs : List Loc} {cells slots : Nat} {P : Outcome → State → Prop} {a0 : Array Value} {h : Heap}
/-- from the frame g over the state T the run ends, and P holds of the end -/
def Ends (p : Program) (e : Env) (below : List Frame) (P : Outcome → State → Prop) (T : State) (g : JFrame) : Prop :=
  ∃ s₂ o, Steps p.tables e below (T.setTop g) s₂ ∧ s₂.status = .running ∧ Ended s₂ below o ∧ P o s₂
theorem Ends.by {g g' : JFrame} (h : ∀ t, Steps p.tables e below (T'.setTop g') t → Steps p.tables e below (T.setTop g) t) (k : Ends p e below P T' g') : Ends p e below P T g :=
  let ⟨s₂, o, h1, r⟩ := k; ⟨s₂, o, h _ h1, r⟩
theorem Ends.on {g g' : JFrame} (h : Steps p.tables e below (T.setTop g) (T'.setTop g')) (k : Ends p e below P T' g') : Ends p e below P T g :=
  let ⟨s₂, o, h1, r⟩ := k; ⟨s₂, o, h.trans h1, r⟩
/-- the end: it returned v, Q holds of v, the heap and the places written; the frame -/
def Fini (s : State) (Q : Option Value → Heap → List Loc → Prop) (rc rs : Nat) : Outcome → State → Prop :=
  fun o U' => ∃ v L, o = .returned v ∧ Q v U'.heap L ∧ FrameEnd s o U' L rc rs
/-- a body's contract: from these arguments over the heap h0 it returns with Q -/
def Con (l : Launch) (Z : State) (y : MethodName) (bytes : ByteArray) (maxL : Nat) (ret : Option FieldType) (rm : Room) (as' : Array Value) (h0 : Heap) (Q : Option Value → Heap → List Loc → Prop) : Prop :=
  ∀ ws : List Jvm.Cond, MetFree l y (head1 (Jvm.Cond.code y bytes maxL ret :: ws) rm) (fun a U => a = as' ∧ Z.Warmed39 U.vm ∧ U.heap = h0) (fun _ _ _ _ _ => True) (fun _ U o U' => ∃ v L, o = .returned v ∧ Q v U'.heap L ∧ FrameEnd U o U' L rm.cells rm.slots)
theorem Con.intro {y : MethodName} {bytes : ByteArray} {maxL : Nat} {ret : Option FieldType} {rm : Room} {as' : Array Value} {h0 : Heap} {Q : Option Value → Heap → List Loc → Prop} (hpl : plainFor y = true)
    (body : ∀ (p : Program) (e : Env) (s : State) (m : MethodId) (below : List Frame) (meth : Method) (c : Code) (s₁ : State), p.tables.exec = Jvm.exec → c.code = bytes → c.maxLocals = maxL → s.vm.findClass y.cls = some m.cls → meth.name = y.name → meth.sig.returnType = ret → meth.locks = false → Z.Warmed39 s.vm →
      Stand p l e rm s m as' below meth c s₁ [] 0 0 → s₁.heap = h0 → Ends p e below (Fini s Q rm.cells rm.slots) s₁ (entryFrame m as' maxL)) : Con l Z y bytes maxL ret rm as' h0 Q := by
  intro ws
  refine MetFree.of_bodySF hpl hisR ?_
  intro p e s m args below meth c s₁ Bd hml0 hP hK
  obtain ⟨rfl, hZ, hh⟩ := hP
  have X0 : Stand p l e rm s m args below meth c s₁ [] 0 0 := Stand.of_body Bd
  have e0 : s₁.heap = h0 := by rw [← hh, Bd.state]; rfl
  exact body p e s m below meth c s₁ Bd.exec Bd.bytes hml0 (findClass_of_methodNamed Bd.named) (name_of_methodNamed Bd.named Bd.method).1 Bd.returns Bd.notSynchronized hZ X0 e0
theorem Con.mono {y : MethodName} {bytes : ByteArray} {maxL : Nat} {ret : Option FieldType} {rm : Room} {as' : Array Value} {h0 : Heap} {Q Q' : Option Value → Heap → List Loc → Prop} (C : Con l Z y bytes maxL ret rm as' h0 Q) (hq : ∀ v h L, Q v h L → Q' v h L) : Con l Z y bytes maxL ret rm as' h0 Q' :=
  fun ws p e ha hc hk s m args below hf happ hP hK => let ⟨n, o, h1, h2, h3, v, L, r1, r2, r3⟩ := C ws p e ha hc hk s m args below hf happ hP hK; ⟨n, o, h1, h2, h3, v, L, r1, hq _ _ _ r2, r3⟩
theorem Ends.cast {g g' : JFrame} (q : g = g') (k : Ends p e below P T g') : Ends p e below P T g := q ▸ k
theorem Ends.retV (X : Stand p l e R s m args below meth c T locs cells slots) (hx : p.tables.exec = Jvm.exec) (hlk : meth.locks = false) {pc : Nat} {Ls : Array Slot} (hret : meth.sig.returnType = none) (hd : decode c.code pc = .ok (.return_, 1))
    {Q : Option Value → Heap → List Loc → Prop} {rc rs : Nat} (hc : cells ≤ rc) (hs : slots ≤ rs) (hQ : Q none T.heap locs) : Ends p e below (Fini s Q rc rs) T (mkF m pc Ls []) := by
  obtain ⟨fs, hr, hrun, hended, hW, hsame⟩ := X.leave (v := none) (fun _ => rfl) hlk
  exact ⟨_, _, X.returnOut hx hret hd hr, hrun, hended, _, _, rfl, hQ, ⟨_, rfl⟩, hW, hsame.mono hc hs⟩
theorem Ends.retI (X : Stand p l e R s m args below meth c T locs cells slots) (hx : p.tables.exec = Jvm.exec) (hlk : meth.locks = false) {pc : Nat} {Ls : Array Slot} {z : Int32} {rest : List Value} (hret : meth.sig.returnType = some .int) (hd : decode c.code pc = .ok (.ireturn, 1))
    {Q : Option Value → Heap → List Loc → Prop} {rc rs : Nat} (hc : cells ≤ rc) (hs : slots ≤ rs) (hQ : Q (some (.int z)) T.heap locs) : Ends p e below (Fini s Q rc rs) T (mkF m pc Ls (.int z :: rest)) := by
  obtain ⟨fs, hr, hrun, hended, hW, hsame⟩ := X.leave (v := some (.int z)) (fun h => by rw [hret] at h; cases h) hlk
  exact ⟨_, _, retOut X hx hret rfl (Or.inl ⟨rfl, Or.inl rfl, z, rfl⟩) hd hr, hrun, hended, _, _, rfl, hQ, ⟨_, rfl⟩, hW, hsame.mono hc hs⟩
theorem Ends.retL (X : Stand p l e R s m args below meth c T locs cells slots) (hx : p.tables.exec = Jvm.exec) (hlk : meth.locks = false) {pc : Nat} {Ls : Array Slot} {z : Int64} {rest : List Value} (hret : meth.sig.returnType = some .long) (hd : decode c.code pc = .ok (.lreturn, 1))
    {Q : Option Value → Heap → List Loc → Prop} {rc rs : Nat} (hc : cells ≤ rc) (hs : slots ≤ rs) (hQ : Q (some (.long z)) T.heap locs) : Ends p e below (Fini s Q rc rs) T (mkF m pc Ls (.long z :: rest)) := by
  obtain ⟨fs, hr, hrun, hended, hW, hsame⟩ := X.leave (v := some (.long z)) (fun h => by rw [hret] at h; cases h) hlk
  exact ⟨_, _, retOut X hx hret rfl (Or.inr (Or.inl ⟨rfl, rfl, z, rfl⟩)) hd hr, hrun, hended, _, _, rfl, hQ, ⟨_, rfl⟩, hW, hsame.mono hc hs⟩
theorem Ends.retA (X : Stand p l e R s m args below meth c T locs cells slots) (hx : p.tables.exec = Jvm.exec) (hlk : meth.locks = false) {pc : Nat} {Ls : Array Slot} {t : FieldType} {a : Addr} {rest : List Value} (hret : meth.sig.returnType = some t) (ht : t.isReference = true) (hn : narrow t (.ref a) = .ref a) (hd : decode c.code pc = .ok (.areturn, 1))
    {Q : Option Value → Heap → List Loc → Prop} {rc rs : Nat} (hc : cells ≤ rc) (hs : slots ≤ rs) (hQ : Q (some (.ref a)) T.heap locs) : Ends p e below (Fini s Q rc rs) T (mkF m pc Ls (.ref a :: rest)) := by
  obtain ⟨fs, hr, hrun, hended, hW, hsame⟩ := X.leave (v := some (.ref a)) (fun h => by rw [hret] at h; cases h) hlk
  exact ⟨_, _, retOut X hx hret hn (Or.inr (Or.inr (Or.inr (Or.inr ⟨rfl, ht, rfl⟩)))) hd hr, hrun, hended, _, _, rfl, hQ, ⟨_, rfl⟩, hW, hsame.mono hc hs⟩
/-- a boolean that is 0 or 1 -/
theorem Ends.retZ (X : Stand p l e R s m args below meth c T locs cells slots) (hx : p.tables.exec = Jvm.exec) (hlk : meth.locks = false) {pc : Nat} {Ls : Array Slot} {z : Int32} {rest : List Value} (hret : meth.sig.returnType = some .boolean) (hd : decode c.code pc = .ok (.ireturn, 1)) (h01 : z &&& 1 = z)
    {Q : Option Value → Heap → List Loc → Prop} {rc rs : Nat} (hc : cells ≤ rc) (hs : slots ≤ rs) (hQ : Q (some (.int z)) T.heap locs) : Ends p e below (Fini s Q rc rs) T (mkF m pc Ls (.int z :: rest)) := by
  obtain ⟨fs, hr, hrun, hended, hW, hsame⟩ := X.leave (v := some (.int z)) (fun h => by rw [hret] at h; cases h) hlk
  have hn : nar .boolean z = z := h01
  refine ⟨_, _, retN X hx (t := .boolean) hret (by simp) hd (fs := fs) ?_, hrun, hended, _, _, rfl, hQ, ⟨_, rfl⟩, hW, hsame.mono hc hs⟩
  rw [hn]; exact hr
/-- a static method by its contract -/
theorem Ends.callS (X : Stand p l e R s m args below meth c T locs cells slots) (hx : p.tables.exec = Jvm.exec) (hZ : Z.Warmed39 s.vm) {own : String} {index : Nat} {y : MethodName} {bytes : ByteArray} {maxL : Nat} {ret : Option FieldType}
    (hown : s.vm.findClass own = some m.cls) (w1 : (Jvm.Cond.methodLink own index y).before a0 Z = true) (w2 : (Jvm.Cond.static y).before a0 Z = true) (w3 : (Jvm.Cond.initialized y.cls).before a0 Z = true) (w4 : (Jvm.Cond.code y bytes maxL ret).before a0 Z = true)
    (hy : y.cls ≠ "java/lang/invoke/MethodHandle" ∧ y.cls ≠ "java/lang/invoke/VarHandle") {rm : Room} {argsL rest : List Value} {Q : Option Value → Heap → List Loc → Prop} (C : Con l Z y bytes maxL ret rm argsL.toArray h Q) (eT : T.heap = h)
    {pc : Nat} {Ls : Array Slot} (hsize : Ls.size = c.maxLocals) (hd : decode c.code pc = .ok (.invokestatic index, 3)) (hlen : ∀ sig, parseMethodDescriptor y.desc = some sig → argsL.length = sig.parameters.length)
    (W : Nat) (hW : (rest.map fun v => v.category).sum ≤ W) (hf : rm.frames + 1 ≤ R.frames) (hl : W + (maxL + 11) + rm.locals ≤ R.locals) (hc : cells + rm.cells ≤ R.cells) (hs : slots + rm.slots ≤ R.slots)
    (k : ∀ v T' L, Stand p l e R s m args below meth c T' (locs ++ L) (cells + rm.cells) (slots + rm.slots) → Q v T'.heap L → Ends p e below P T' (mkF m (pc + 3) Ls (v.toList ++ rest))) :
    Ends p e below P T (mkF m pc Ls (argsL.reverse ++ rest)) := by
  obtain ⟨v, _, ⟨T1, L1, k1, n1⟩, -, X1, ⟨Lc, hQ, l1, y1, z1⟩, st⟩ := Jvm.LawKit.callS X hx (y := y) hown (mvT hZ w1) (mvT hZ w2) (mvT hZ w3) (mvT hZ w4) hy (backOf (W := W) (C []) hZ w4 w3 hf hl) (g := mkF m pc Ls (argsL.reverse ++ rest)) rfl hsize (argsL := argsL) (rest := rest) hlen rfl (by show 2 * 0 + _ ≤ _; omega) hd (fun _ _ => ⟨rfl, eT, hc, hs⟩)
  dsimp only [Pt.U, Pt.locs, Pt.cells, Pt.slots] at X1 l1 y1 z1 st hQ
  subst l1 y1 z1
  exact Ends.by st (k v T1 Lc X1 hQ)
/-- a constructor by its contract -/
theorem Ends.callI (X : Stand p l e R s m args below meth c T locs cells slots) (hx : p.tables.exec = Jvm.exec) (hZ : Z.Warmed39 s.vm) {own : String} {index : Nat} {y : MethodName} {bytes : ByteArray} {maxL : Nat} (hy1 : y.name = "<init>")
    (hown : s.vm.findClass own = some m.cls) (w1 : (Jvm.Cond.methodLink own index y).before a0 Z = true) (w2 : (Jvm.Cond.instanceMethod y).before a0 Z = true) (w3 : (Jvm.Cond.initialized y.cls).before a0 Z = true) (w4 : (Jvm.Cond.code y bytes maxL none).before a0 Z = true)
    (hy : y.cls ≠ "java/lang/invoke/MethodHandle" ∧ y.cls ≠ "java/lang/invoke/VarHandle") {rm : Room} {a : Addr} {argsL rest : List Value} {Q : Option Value → Heap → List Loc → Prop} (C : Con l Z y bytes maxL none rm (.ref a :: argsL).toArray h Q) (eT : T.heap = h)
    {pc : Nat} {Ls : Array Slot} (hsize : Ls.size = c.maxLocals) (hd : decode c.code pc = .ok (.invokespecial index, 3)) (hlen : ∀ sig, parseMethodDescriptor y.desc = some sig → argsL.length = sig.parameters.length)
    (W : Nat) (hW : (rest.map fun v => v.category).sum ≤ W) (hf : rm.frames + 1 ≤ R.frames) (hl : W + (maxL + 11) + rm.locals ≤ R.locals) (hc : cells + rm.cells ≤ R.cells) (hs : slots + rm.slots ≤ R.slots)
    (k : ∀ v T' L, Stand p l e R s m args below meth c T' (locs ++ L) (cells + rm.cells) (slots + rm.slots) → Q v T'.heap L → Ends p e below P T' (mkF m (pc + 3) Ls (v.toList ++ rest))) :
    Ends p e below P T (mkF m pc Ls (argsL.reverse ++ .ref a :: rest)) := by
  obtain ⟨v, _, ⟨T1, L1, k1, n1⟩, -, X1, ⟨Lc, hQ, l1, y1, z1⟩, st⟩ := X.specialBack hx (y := y) hy1 hown (mvT hZ w1) (mvT hZ w2) (mvT hZ w4) hy (backOf (W := W) (C []) hZ w4 w3 hf hl) (g := mkF m pc Ls (argsL.reverse ++ .ref a :: rest)) rfl hsize (Steps.refl _) (a := a) (argsL := argsL) (rest := rest) hlen rfl (by show 2 * 0 + _ ≤ _; omega) hd (fun _ _ => ⟨rfl, eT, hc, hs⟩)
  dsimp only [Pt.U, Pt.locs, Pt.cells, Pt.slots] at X1 l1 y1 z1 st hQ
  subst l1 y1 z1
  exact Ends.on st (k v T1 Lc X1 hQ)
/-- an instance method, declared and selected in the receiver's own class -/
theorem Ends.callV (X : Stand p l e R s m args below meth c T locs cells slots) (hx : p.tables.exec = Jvm.exec) (hZ : Z.Warmed39 s.vm) {own : String} {index : Nat} {y : MethodName} {bytes : ByteArray} {maxL : Nat} {ret : Option FieldType}
    (hown : s.vm.findClass own = some m.cls) (w1 : (Jvm.Cond.methodLink own index y).before a0 Z = true) (wd : (Jvm.Cond.declares y).before a0 Z = true) (w2 : (Jvm.Cond.instanceMethod y).before a0 Z = true) (ws : (Jvm.Cond.selects y.cls y y).before a0 Z = true) (w3 : (Jvm.Cond.initialized y.cls).before a0 Z = true) (w4 : (Jvm.Cond.code y bytes maxL ret).before a0 Z = true)
    (hy : y.cls ≠ "java/lang/invoke/MethodHandle" ∧ y.cls ≠ "java/lang/invoke/VarHandle") {rm : Room} {a : Addr} {argsL rest : List Value} {Q : Option Value → Heap → List Loc → Prop} (C : Con l Z y bytes maxL ret rm (.ref a :: argsL).toArray h Q) (eT : T.heap = h) (E : Exa Z h a y.cls)
    {pc : Nat} {Ls : Array Slot} (hsize : Ls.size = c.maxLocals) (hd : decode c.code pc = .ok (.invokevirtual index, 3)) (hlen : ∀ sig, parseMethodDescriptor y.desc = some sig → argsL.length = sig.parameters.length)
    (W : Nat) (hW : (rest.map fun v => v.category).sum ≤ W) (hf : rm.frames + 1 ≤ R.frames) (hl : W + (maxL + 11) + rm.locals ≤ R.locals) (hc : cells + rm.cells ≤ R.cells) (hs : slots + rm.slots ≤ R.slots)
    (k : ∀ v T' L, Stand p l e R s m args below meth c T' (locs ++ L) (cells + rm.cells) (slots + rm.slots) → Q v T'.heap L → Ends p e below P T' (mkF m (pc + 3) Ls (v.toList ++ rest))) :
    Ends p e below P T (mkF m pc Ls (argsL.reverse ++ .ref a :: rest)) := by
  obtain ⟨cq, kq, qa, qb, qc⟩ := isOf (T := T) hZ eT E
  obtain ⟨v, _, ⟨T1, L1, k1, n1⟩, -, X1, ⟨Lc, hQ, l1, y1, z1⟩, st⟩ := X.virtualBack hx (y := y) (z := y) hown (mvT hZ w1) (mvT hZ wd) (notFace_of_selects (args := #[]) (mvT hZ ws)) (mvT hZ ws) (mvT hZ w2) hy (backOf (W := W) (C []) hZ w4 w3 hf hl) qa qc (g := mkF m pc Ls (argsL.reverse ++ .ref a :: rest)) rfl hsize (Steps.refl _) (argsL := argsL) (rest := rest) hlen rfl (by show 2 * 0 + _ ≤ _; omega) hd (fun _ _ => ⟨rfl, eT, hc, hs⟩)
  dsimp only [Pt.U, Pt.locs, Pt.cells, Pt.slots] at X1 l1 y1 z1 st hQ
  subst l1 y1 z1
  exact Ends.on st (k v T1 Lc X1 hQ)
/-- nothing is written, nothing made: it returns v -/
def Pure (h0 : Heap) (r : Option Value) (v : Option Value) (h : Heap) (L : List Loc) : Prop := v = r ∧ h = h0 ∧ L = []
/-- the six comparisons, both ways at once -/
theorem Ends.icmp (X : Stand p l e R s m args below meth c T locs cells slots) (hx : p.tables.exec = Jvm.exec) {cd : ClassFile.Cond} {x y : Int32} {o : Int} {pc : Nat} {Ls : Array Slot} {rest : List Value} (hd : decode c.code pc = .ok (.if_icmp cd o, 3)) (pc' : Nat) (ho : 0 ≤ (pc : Int) + o) (hp : ((pc : Int) + o).toNat = pc')
    (kT : if_icmp.holds cd x y = true → Ends p e below P T (mkF m pc' Ls rest)) (kF : if_icmp.holds cd x y = false → Ends p e below P T (mkF m (pc + 3) Ls rest)) : Ends p e below P T (mkF m pc Ls (.int y :: .int x :: rest)) := by
  rcases hb : if_icmp.holds cd x y with _ | _
  · exact Ends.by (fun _ => XS.icmpNo X.here hx rfl hd rfl hb) (kF hb)
  · exact Ends.by (fun _ => XS.icmpYes X.here hx rfl (pc0 := pc) (pc' := pc') rfl hd rfl hb ho hp) (kT hb)
theorem own_wrap {x y : Int} (h : (x - y) % 4294967296 = 0) (r : -2147483648 ≤ x ∧ x < 2147483648) (b : -2147483648 ≤ y ∧ y < 2147483648) : x = y := by omega
theorem own_andor (x a b : Int32) : (x &&& a) ||| (x &&& b) = x &&& (a ||| b) := by
  apply Int32.toBitVec_inj.mp
  rw [Int32.toBitVec_or, Int32.toBitVec_and, Int32.toBitVec_and, Int32.toBitVec_and, Int32.toBitVec_or, ← BitVec.and_or_distrib_left]
theorem own_lt {x y : Int32} : (if_icmp.holds .lt x y = true → x < y) ∧ (if_icmp.holds .lt x y = false → ¬ x < y) := ⟨fun q => Classical.byContradiction fun n => (by rw [(flt n).1] at q; cases q), fun q n => (by rw [(tlt n).1] at q; cases q)⟩
theorem own_ge {x y : Int32} : (if_icmp.holds .ge x y = true → ¬ x < y) ∧ (if_icmp.holds .ge x y = false → x < y) := ⟨fun q n => (by rw [(tlt n).2.1] at q; cases q), fun q => Classical.byContradiction fun n => (by rw [(flt n).2.1] at q; cases q)⟩
theorem own_gt {x y : Int32} : (if_icmp.holds .gt x y = true → y < x) ∧ (if_icmp.holds .gt x y = false → ¬ y < x) := ⟨fun q => Classical.byContradiction fun n => (by rw [(flt n).2.2.1] at q; cases q), fun q n => (by rw [(tlt n).2.2.1] at q; cases q)⟩
theorem own_le {x y : Int32} : (if_icmp.holds .le x y = true → ¬ y < x) ∧ (if_icmp.holds .le x y = false → y < x) := ⟨fun q n => (by rw [(tlt n).2.2.2] at q; cases q), fun q => Classical.byContradiction fun n => (by rw [(flt n).2.2.2] at q; cases q)⟩
theorem own_eq {x y : Int32} : (if_icmp.holds .eq x y = true → x = y) ∧ (if_icmp.holds .eq x y = false → ¬ x = y) := ⟨fun q => Classical.byContradiction fun n => (by rw [(feq n).1] at q; cases q), fun q n => (by rw [(teq n).1] at q; cases q)⟩
theorem own_ne {x y : Int32} : (if_icmp.holds .ne x y = true → ¬ x = y) ∧ (if_icmp.holds .ne x y = false → x = y) := ⟨fun q n => (by rw [(teq n).2] at q; cases q), fun q => Classical.byContradiction fun n => (by rw [(feq n).2] at q; cases q)⟩
theorem Ends.ifc (X : Stand p l e R s m args below meth c T locs cells slots) (hx : p.tables.exec = Jvm.exec) {cd : ClassFile.Cond} {x : Int32} {o : Int} {pc : Nat} {Ls : Array Slot} {rest : List Value} (hd : decode c.code pc = .ok (.ifCond cd o, 3)) (pc' : Nat) (ho : 0 ≤ (pc : Int) + o) (hp : ((pc : Int) + o).toNat = pc')
    (kT : if_icmp.holds cd x 0 = true → Ends p e below P T (mkF m pc' Ls rest)) (kF : if_icmp.holds cd x 0 = false → Ends p e below P T (mkF m (pc + 3) Ls rest)) : Ends p e below P T (mkF m pc Ls (.int x :: rest)) := by
  rcases hb : if_icmp.holds cd x 0 with _ | _
  · exact Ends.by (fun _ => XS.ifNo X.here hx rfl hd rfl ((if0 _ _).trans hb)) (kF hb)
  · exact Ends.by (fun _ => XS.ifYes X.here hx rfl (pc0 := pc) (pc' := pc') rfl hd rfl ((if0 _ _).trans hb) ho hp) (kT hb)
end Own
end Jvm.Pilot.@@N@@
namespace Jvm.Pilot.@@N@@
open Jvm Jvm.ClassFile Sem Op Lib Jvm.Free Jvm.Stand Jvm.LawKit Jvm.RoadKit Bundle Jvm.Pilot.@@N@@.Jvm.D
section Own2
variable {p : Program} {l : Launch} {e : Env} {R : Room} {s : State} {m : MethodId} {args : Array Value} {below : List Frame} {meth : Method} {c : Code} {T T' Z : State} {locs : List Loc} {cells slots : Nat} {P : Outcome → State → Prop} {a0 : Array Value} {h h' h0 : Heap} {a b : Addr} {ty : FieldType} {n k n0 : Nat} {f : Nat → Value} {ws : List Addr}
/-- g with v at the place k -/
def upd {α : Type} (g : Nat → α) (k : Nat) (v : α) : Nat → α := fun i => if i = k then v else g i
theorem upd_hit {α : Type} (g : Nat → α) (k : Nat) (v : α) : upd g k v k = v := if_pos rfl
theorem upd_miss {α : Type} (g : Nat → α) {k i : Nat} (v : α) (q : i ≠ k) : upd g k v i = g i := if_neg q
/-- an array of n elements, the i-th is f i -/
def Af (Z : State) (h : Heap) (a : Addr) (ty : FieldType) (n : Nat) (f : Nat → Value) : Prop :=
  ∃ c : Cell, Arr Z h a c ty ∧ c.slots.size = n ∧ n < 2147483648 ∧ (∀ i, i < n → c.slots[i]? = some (f i)) ∧ ∀ i, i < n → fits ty (f i) = true
theorem Af.lt (F : Af Z h a ty n f) : a < h.size := by obtain ⟨c, A, -⟩ := F; exact A.lt
theorem Af.small (F : Af Z h a ty n f) : n < 2147483648 := by obtain ⟨c, -, -, q, -⟩ := F; exact q
theorem Af.ext (F : Af Z h a ty n f) (E : Ext h h') : Af Z h' a ty n f := by obtain ⟨c, A, r⟩ := F; exact ⟨c, A.ext E, r⟩
theorem Af.keep (F : Af Z h a ty n f) (K : Keep h h' ws) (q : a ∉ ws) : Af Z h' a ty n f := by obtain ⟨c, A, r⟩ := F; exact ⟨c, ⟨K.2.1 a c A.1 q, A.2⟩, r⟩
theorem Af.other {sl : Nat} {v : Value} (F : Af Z h b ty n f) (W : Wr h h' a sl v) (q : b ≠ a) : Af Z h' b ty n f := by obtain ⟨c, A, r⟩ := F; exact ⟨c, A.other W q, r⟩
theorem Af.congr {f' : Nat → Value} (F : Af Z h a ty n f) (q : ∀ i, i < n → f' i = f i) : Af Z h a ty n f' := by
  obtain ⟨c, A, r1, r2, r3, r4⟩ := F; exact ⟨c, A, r1, r2, fun i hi => by rw [q i hi]; exact r3 i hi, fun i hi => by rw [q i hi]; exact r4 i hi⟩
theorem Af.set {v : Value} (F : Af Z h a ty n f) (W : Wr h h' a k v) (hk : k < n) (hv : fits ty v = true) : Af Z h' a ty n (upd f k v) := by
  obtain ⟨c, A, r1, r2, r3, r4⟩ := F
  refine ⟨c.setSlot k v, A.same W, by rw [sz_set]; exact r1, r2, fun i hi => ?_, fun i hi => ?_⟩
  · by_cases q : i = k
    · subst q; rw [upd_hit]; simp [Cell.setSlot, r1, hi]
    · rw [upd_miss _ _ q, ← r3 i hi]; simp [Cell.setSlot, Array.getElem?_setIfInBounds, Ne.symm q]
  · by_cases q : i = k
    · subst q; rw [upd_hit]; exact hv
    · rw [upd_miss _ _ q]; exact r4 i hi
theorem Af.new {k : ClassId} {z : Int32} (A : Arr Z h a (newA k ty z) ty) (q : z.toInt = (n : Int)) (hd : fits ty (defaultValue ty) = true) : Af Z h a ty n (fun _ => defaultValue ty) := by
  have e : z.toNatClampNeg = n := by show z.toInt.toNat = n; omega
  have r := z.toInt_lt
  refine ⟨_, A, by rw [sz_new, e], by omega, fun i hi => ?_, fun i _ => hd⟩
  simp [newA, e, hi]
theorem own_idx {j : Int32} (q : j.toInt = (k : Int)) : j.toNatClampNeg = k ∧ ¬ j < 0 := by
  refine ⟨by show j.toInt.toNat = k; omega, ?_⟩
  rw [Int32.lt_iff_toInt_lt]; have : (0 : Int32).toInt = 0 := rfl; omega
theorem own_inb {j : Int32} {c : Cell} (S : c.slots.size = n) (q : j.toInt = (k : Int)) (hk : k < n) : ¬ (j < 0 ∨ c.slots.size ≤ j.toNatClampNeg) := by
  obtain ⟨q1, q2⟩ := own_idx q
  rw [S, q1]; intro o; rcases o with o | o
  · exact q2 o
  · omega
/-- the array's length -/
theorem Ends.len (X : Stand p l e R s m args below meth c T locs cells slots) (hx : p.tables.exec = Jvm.exec) (hZ : Z.Warmed39 s.vm) (eT : T.heap = h) (F : Af Z h a ty n f) {z : Int32} (hz : z.toInt = (n : Int)) {pc : Nat} {Ls : Array Slot} {rest : List Value} (hd : decode c.code pc = .ok (.arraylength, 1))
    (kk : Ends p e below P T (mkF m (pc + 1) Ls (.int z :: rest))) : Ends p e below P T (mkF m pc Ls (.ref a :: rest)) := by
  obtain ⟨cl, A, r1, r2, -⟩ := F
  refine Ends.by (fun t => X.arraylength hx (by rw [eT]; exact A.1) (State.isArrayOf_alike hZ.alike A.2.1) (g := mkF m pc Ls (.ref a :: rest)) rfl rfl hd t) ?_
  have q : cl.slots.size.toInt32 = z := by
    apply Int32.toInt_inj.mp; rw [r1, hz]; exact Int32.toInt_ofNat_of_lt (by omega)
  rw [q]; exact kk
theorem Ends.ldB (X : Stand p l e R s m args below meth c T locs cells slots) (hx : p.tables.exec = Jvm.exec) (hZ : Z.Warmed39 s.vm) (eT : T.heap = h) (F : Af Z h a .byte n f) {j : Int32} (hj : j.toInt = (k : Int)) (hk : k < n) {v : Value} (hv : f k = v) {pc : Nat} {Ls : Array Slot} {rest : List Value} (hd : decode c.code pc = .ok (.baload, 1))
    (kk : Ends p e below P T (mkF m (pc + 1) Ls (v :: rest))) : Ends p e below P T (mkF m pc Ls (.int j :: .ref a :: rest)) := by
  obtain ⟨cl, A, r1, r2, r3, -⟩ := F
  exact Ends.by (fun t => X.baloadBytes hx (j := j) (v := v) (by rw [eT]; exact A.1) (State.isArrayOf_alike hZ.alike A.2.1) A.2.2 (own_inb r1 hj hk) (by rw [(own_idx hj).1, ← hv]; exact r3 k hk) (g := mkF m pc Ls (.int j :: .ref a :: rest)) rfl rfl hd t) kk
theorem Ends.ldI (X : Stand p l e R s m args below meth c T locs cells slots) (hx : p.tables.exec = Jvm.exec) (hZ : Z.Warmed39 s.vm) (eT : T.heap = h) (F : Af Z h a .int n f) {j : Int32} (hj : j.toInt = (k : Int)) (hk : k < n) {v : Value} (hv : f k = v) {pc : Nat} {Ls : Array Slot} {rest : List Value} (hd : decode c.code pc = .ok (.iaload, 1))
    (kk : Ends p e below P T (mkF m (pc + 1) Ls (v :: rest))) : Ends p e below P T (mkF m pc Ls (.int j :: .ref a :: rest)) := by
  obtain ⟨cl, A, r1, r2, r3, -⟩ := F
  exact Ends.by (fun t => X.iaload hx (j := j) (v := v) (by rw [eT]; exact A.1) (State.isArrayOf_alike hZ.alike A.2.1) A.2.2 (own_inb r1 hj hk) (by rw [(own_idx hj).1, ← hv]; exact r3 k hk) (g := mkF m pc Ls (.int j :: .ref a :: rest)) rfl rfl hd t) kk
theorem Ends.ldJ (X : Stand p l e R s m args below meth c T locs cells slots) (hx : p.tables.exec = Jvm.exec) (hZ : Z.Warmed39 s.vm) (eT : T.heap = h) (F : Af Z h a .long n f) {j : Int32} (hj : j.toInt = (k : Int)) (hk : k < n) {v : Value} (hv : f k = v) {pc : Nat} {Ls : Array Slot} {rest : List Value} (hd : decode c.code pc = .ok (.laload, 1))
    (kk : Ends p e below P T (mkF m (pc + 1) Ls (v :: rest))) : Ends p e below P T (mkF m pc Ls (.int j :: .ref a :: rest)) := by
  obtain ⟨cl, A, r1, r2, r3, -⟩ := F
  exact Ends.by (fun t => X.laload hx (j := j) (v := v) (by rw [eT]; exact A.1) (State.isArrayOf_alike hZ.alike A.2.1) A.2.2 (own_inb r1 hj hk) (by rw [(own_idx hj).1, ← hv]; exact r3 k hk) (g := mkF m pc Ls (.int j :: .ref a :: rest)) rfl rfl hd t) kk
theorem own_snoc {sl : Nat} (N : Fr n0 locs) (q : n0 ≤ a) : Fr n0 (locs ++ [⟨a, sl⟩]) := N.app fun y hy => by cases List.mem_singleton.mp hy; exact q
theorem Ends.stB (X : Stand p l e R s m args below meth c T locs cells slots) (hx : p.tables.exec = Jvm.exec) (hZ : Z.Warmed39 s.vm) (eT : T.heap = h) (N : Fr n0 locs) (ge : n0 ≤ a) (F : Af Z h a .byte n f) {j x : Int32} (hj : j.toInt = (k : Int)) (hk : k < n) {pc : Nat} {Ls : Array Slot} {rest : List Value} (hd : decode c.code pc = .ok (.bastore, 1))
    (kk : ∀ T' h' L', Stand p l e R s m args below meth c T' L' cells slots → T'.heap = h' → Fr n0 L' → Wr h h' a k (.int x.toInt8.toInt32) → Af Z h' a .byte n (upd f k (.int x.toInt8.toInt32)) → Ends p e below P T' (mkF m (pc + 1) Ls rest)) : Ends p e below P T (mkF m pc Ls (.int x :: .int j :: .ref a :: rest)) := by
  obtain ⟨cl, A, r1, r2, r3, r4⟩ := F
  obtain ⟨T1, h1, X1, e1, W1, st⟩ := Jvm.RoadKit.stB X hx hZ eT A (j := j) (x := x) (own_inb r1 hj hk) (g := mkF m pc Ls (.int x :: .int j :: .ref a :: rest)) rfl rfl hd
  rw [(own_idx hj).1] at W1
  have W2 : Wr h h1 a k (.int x.toInt8.toInt32) := W1
  exact Ends.by st (kk T1 h1 _ X1 e1 (own_snoc N ge) W2 (Af.set ⟨cl, A, r1, r2, r3, r4⟩ W2 hk (fits_nar_byte x)))
theorem Ends.stI (X : Stand p l e R s m args below meth c T locs cells slots) (hx : p.tables.exec = Jvm.exec) (hZ : Z.Warmed39 s.vm) (eT : T.heap = h) (N : Fr n0 locs) (ge : n0 ≤ a) (F : Af Z h a .int n f) {j x : Int32} (hj : j.toInt = (k : Int)) (hk : k < n) {pc : Nat} {Ls : Array Slot} {rest : List Value} (hd : decode c.code pc = .ok (.iastore, 1))
    (kk : ∀ T' h' L', Stand p l e R s m args below meth c T' L' cells slots → T'.heap = h' → Fr n0 L' → Wr h h' a k (.int x) → Af Z h' a .int n (upd f k (.int x)) → Ends p e below P T' (mkF m (pc + 1) Ls rest)) : Ends p e below P T (mkF m pc Ls (.int x :: .int j :: .ref a :: rest)) := by
  obtain ⟨cl, A, r1, r2, r3, r4⟩ := F
  obtain ⟨T1, h1, X1, e1, W1, st⟩ := Jvm.RoadKit.stI X hx hZ eT A (j := j) (x := x) (own_inb r1 hj hk) (g := mkF m pc Ls (.int x :: .int j :: .ref a :: rest)) rfl rfl hd
  rw [(own_idx hj).1] at W1
  exact Ends.by st (kk T1 h1 _ X1 e1 (own_snoc N ge) W1 (Af.set ⟨cl, A, r1, r2, r3, r4⟩ W1 hk rfl))
theorem Ends.stJ (X : Stand p l e R s m args below meth c T locs cells slots) (hx : p.tables.exec = Jvm.exec) (hZ : Z.Warmed39 s.vm) (eT : T.heap = h) (N : Fr n0 locs) (ge : n0 ≤ a) (F : Af Z h a .long n f) {j : Int32} {x : Int64} (hj : j.toInt = (k : Int)) (hk : k < n) {pc : Nat} {Ls : Array Slot} {rest : List Value} (hd : decode c.code pc = .ok (.lastore, 1))
    (kk : ∀ T' h' L', Stand p l e R s m args below meth c T' L' cells slots → T'.heap = h' → Fr n0 L' → Wr h h' a k (.long x) → Af Z h' a .long n (upd f k (.long x)) → Ends p e below P T' (mkF m (pc + 1) Ls rest)) : Ends p e below P T (mkF m pc Ls (.long x :: .int j :: .ref a :: rest)) := by
  obtain ⟨cl, A, r1, r2, r3, r4⟩ := F
  obtain ⟨T1, h1, X1, e1, W1, st⟩ := Jvm.RoadKit.stJ X hx hZ eT A (j := j) (x := x) (own_inb r1 hj hk) (g := mkF m pc Ls (.long x :: .int j :: .ref a :: rest)) rfl rfl hd
  rw [(own_idx hj).1] at W1
  exact Ends.by st (kk T1 h1 _ X1 e1 (own_snoc N ge) W1 (Af.set ⟨cl, A, r1, r2, r3, r4⟩ W1 hk rfl))
/-- a new array of bytes, ints, longs .. -/
theorem Ends.newA (X : Stand p l e R s m args below meth c T locs cells slots) (hx : p.tables.exec = Jvm.exec) (hZ : Z.Warmed39 s.vm) {aty : ArrayType} (w : (Jvm.Cond.arrayClass (newarray.typeOf aty)).before a0 Z = true) (eT : T.heap = h) {z : Int32} (hz : z.toInt = (n : Int)) (cap : Nat) (hcap : n ≤ cap) (hb : cap * 8 ≤ 536870912) (hc : cells + 1 ≤ R.cells) (hl : slots + cap ≤ R.slots) (hdf : fits (newarray.typeOf aty) (defaultValue (newarray.typeOf aty)) = true)
    {ad : String} (had : "[" ++ (newarray.typeOf aty).toString = ad) {pc : Nat} {Ls : Array Slot} {rest : List Value} (hd : decode c.code pc = .ok (.newarray aty, 2))
    (kk : ∀ T' h' o, o = h.size → Stand p l e R s m args below meth c T' locs (cells + 1) (slots + cap) → T'.heap = h' → Ext h h' → Af Z h' o (newarray.typeOf aty) n (fun _ => defaultValue (newarray.typeOf aty)) → Exa Z h' o ad → Ends p e below P T' (mkF m (pc + 2) Ls (.ref o :: rest))) : Ends p e below P T (mkF m pc Ls (.int z :: rest)) := by
  obtain ⟨q1, q2⟩ := own_idx hz
  obtain ⟨T1, h1, cA, X1, e1, E1, A1, Ex1, st⟩ := newPE X hx hZ w eT (g := mkF m pc Ls (.int z :: rest)) rfl hd rfl q2 (cap := cap) (by rw [q1]; exact hcap) hb hc hl had
  exact Ends.by st (kk T1 h1 h.size rfl X1 e1 E1 (Af.new A1 hz hdf) Ex1)
theorem own_updL (g : Nat → Int64) (k : Nat) (x : Int64) (q : Nat) : Value.long (upd g k x q) = upd (fun q => Value.long (g q)) k (.long x) q := by
  unfold upd; split <;> rfl
theorem own_updI (g : Nat → Int32) (k : Nat) (x : Int32) (q : Nat) : Value.int (upd g k x q) = upd (fun q => Value.int (g q)) k (.int x) q := by
  unfold upd; split <;> rfl
/-- an array's clone -/
theorem Ends.clone (X : Stand p l e R s m args below meth c T locs cells slots) (hx : p.tables.exec = Jvm.exec) (hZ : Z.Warmed39 s.vm) {own ad : String} {index : Nat} (hown : s.vm.findClass own = some m.cls)
    (w1 : (Jvm.Cond.methodLink own index ⟨ad, "clone", "()Ljava/lang/Object;"⟩).before a0 Z = true) (w2 : (Jvm.Cond.sameMethod ad "java/lang/Object" "clone" "()Ljava/lang/Object;").before a0 Z = true) (w3 : (Jvm.Cond.native ⟨"java/lang/Object", "clone", "()Ljava/lang/Object;"⟩).before a0 Z = true)
    (w4 : (Jvm.Cond.instanceMethod ⟨"java/lang/Object", "clone", "()Ljava/lang/Object;"⟩).before a0 Z = true) (w5 : (Jvm.Cond.selects ad ⟨ad, "clone", "()Ljava/lang/Object;"⟩ ⟨"java/lang/Object", "clone", "()Ljava/lang/Object;"⟩).before a0 Z = true) (w6 : (Jvm.Cond.castable ad "java/lang/Cloneable").before a0 Z = true)
    (eT : T.heap = h) (F : Af Z h a ty n f) (E : Exa Z h a ad) (W : Nat) {rest : List Value} (hW : (rest.map fun v => v.category).sum ≤ W) {pc : Nat} {Ls : Array Slot} (hsize : Ls.size = c.maxLocals) (hd : decode c.code pc = .ok (.invokevirtual index, 3))
    (hf : 1 ≤ R.frames) (hl : W + 14 ≤ R.locals) (hty : refKind ty = false) (cap : Nat) (hcap : n ≤ cap) (hc : cells + 1 ≤ R.cells) (hsl : slots + cap ≤ R.slots)
    (kk : ∀ T' h' o, o = h.size → Stand p l e R s m args below meth c T' locs (cells + 1) (slots + cap) → T'.heap = h' → Ext h h' → Af Z h' o ty n f → Exa Z h' o ad → Ends p e below P T' (mkF m (pc + 3) Ls (.ref o :: rest))) : Ends p e below P T (mkF m pc Ls (.ref a :: rest)) := by
  obtain ⟨cl, A, r1, r2, r3, r4⟩ := F
  have FC : FitC Z cl := fitC_of A fun i hi v hv => by rw [r3 i (r1 ▸ hi)] at hv; cases hv; exact r4 i (r1 ▸ hi)
  obtain ⟨T1, h1, X1, e1, E1, A1, Ex1, st⟩ := cloneA X hx hZ hown w1 w2 w3 w4 w5 w6 eT A E FC (g := mkF m pc Ls (.ref a :: rest)) rfl hsize rfl hd hf (W := W) (by show 2 * 0 + _ ≤ _; omega) hl (cap := cap) (by rw [r1]; exact hcap) hc hsl
  exact Ends.by st (kk T1 h1 h.size rfl X1 e1 E1 ⟨_, A1, r1, r2, r3, r4⟩ Ex1)
theorem own_apart {C : String} (F : Exa Z h a C) (G : Af Z h b ty n f) {kk : Nat} (wi : (Jvm.Cond.instantiable C kk).before a0 Z = true) : a ≠ b := by
  obtain ⟨cl, A, -⟩ := G; exact ne_arr F wi A
end Own2
end Jvm.Pilot.@@N@@
namespace Jvm.Pilot.@@N@@
open Jvm Jvm.ClassFile Sem Op Lib Jvm.Free Jvm.Stand Jvm.LawKit Jvm.RoadKit Bundle Jvm.Pilot.@@N@@.Jvm.D
section Own3
variable {p : Program} {l : Launch} {e : Env} {R : Room} {s : State} {m : MethodId} {args : Array Value} {below : List Frame} {meth : Method} {c : Code} {T T' Z : State} {locs : List Loc} {cells slots : Nat} {P : Outcome → State → Prop} {a0 : Array Value} {h h' h0 : Heap} {a b : Addr} {ty : FieldType} {n n' k n0 : Nat} {f f' : Nat → Value} {ws : List Addr}
/-- arrays of unlike kinds lie apart -/
theorem own_tyne {ty' : FieldType} (A : Af Z h a ty n f) (B : Af Z h b ty' n' f') (hn : ty ≠ ty') : a ≠ b := by
  intro q; subst q
  obtain ⟨c1, A1, -⟩ := A
  obtain ⟨c2, A2, -⟩ := B
  cases A1.1.symm.trans A2.1
  obtain ⟨-, k1, h1, co1, e1⟩ := A1.2.1
  obtain ⟨-, k2, h2, co2, e2⟩ := A2.2.1
  cases h1.symm.trans h2
  rw [e1] at e2; cases e2; exact hn rfl
theorem own_list (f : Nat → Value) (n i : Nat) (d : Value) (h : i < n) : ((List.range n).map f).getD i d = f i := by
  simp [List.getD_eq_getElem?_getD, h]
theorem Af.arv (F : Af Z h a ty n f) (d : Value) : ∃ k, Arv Z h a k ty (Int32.ofNat n) ((List.range n).map f) d := by
  obtain ⟨c, A, r1, r2, r3, r4⟩ := F
  have e : (Int32.ofNat n).toInt = (n : Int) := Int32.toInt_ofNat_of_lt (by omega)
  obtain ⟨q1, q2⟩ := own_idx e
  refine ⟨c.cls, c, A, rfl, by rw [q1]; exact r1, q2, fun i hi => ?_, fun i hi => ?_⟩
  · rw [own_list _ _ _ _ (by omega)]; exact r3 i (by omega)
  · rw [own_list _ _ _ _ (by omega)]; exact r4 i (by omega)
theorem own_af {k : ClassId} {z : Int32} {vs : List Value} {d : Value} (F : Arv Z h a k ty z vs d) (hz : z.toInt = (n : Int)) : Af Z h a ty n (fun i => vs.getD i d) := by
  obtain ⟨c, A, -, r1, -, H, G⟩ := F
  obtain ⟨q1, q2⟩ := own_idx hz
  have r := z.toInt_lt
  rw [q1] at r1
  exact ⟨c, A, r1, by omega, fun i hi => H i (by omega), fun i hi => G i (by omega)⟩
/-- System.arraycopy from the start of one array to the start of another, of one primitive kind -/
theorem Ends.copy (X : Stand p l e R s m args below meth c T locs cells slots) (hx : p.tables.exec = Jvm.exec) (hZ : Z.Warmed39 s.vm) {own : String} {index : Nat} (hown : s.vm.findClass own = some m.cls)
    (w1 : (Jvm.Cond.methodLink own index Jvm.Stand.acN).before a0 Z = true) (w2 : (Jvm.Cond.native Jvm.Stand.acN).before a0 Z = true) (w3 : (Jvm.Cond.static Jvm.Stand.acN).before a0 Z = true) (w4 : (Jvm.Cond.initialized "java/lang/System").before a0 Z = true) (eT : T.heap = h)
    (A : Af Z h a ty n f) (B : Af Z h b ty n' f') (hty : refKind ty = false) {nn : Int32} {cnt : Nat} (hnn : nn.toInt = (cnt : Int)) (h1 : cnt ≤ n) (h2 : cnt ≤ n') (N : Fr n0 locs) (ge : n0 ≤ b)
    {pc : Nat} {Ls : Array Slot} {rest : List Value} (hsize : Ls.size = c.maxLocals) (hd : decode c.code pc = .ok (.invokestatic index, 3)) (hf : 1 ≤ R.frames) (W : Nat) (hW : (rest.map fun v => v.category).sum ≤ W) (hlo : W + (nativeFrameWords "java/lang/System" "arraycopy" 5 + 11) ≤ R.locals)
    (kk : ∀ T' h' L', Stand p l e R s m args below meth c T' L' cells slots → T'.heap = h' → Fr n0 L' → Keep h h' [b] → Af Z h' b ty n' (fun q => if q < cnt then f q else f' q) → Ends p e below P T' (mkF m (pc + 3) Ls rest)) :
    Ends p e below P T (mkF m pc Ls (.int nn :: .int 0 :: .ref b :: .int 0 :: .ref a :: rest)) := by
  obtain ⟨k1, V1⟩ := A.arv .null
  obtain ⟨k2, V2⟩ := B.arv .null
  obtain ⟨q1, q2⟩ := own_idx hnn
  have s1 := A.small
  have s2 := B.small
  have e1 : (Int32.ofNat n).toInt = (n : Int) := Int32.toInt_ofNat_of_lt (by omega)
  have e2 : (Int32.ofNat n').toInt = (n' : Int) := Int32.toInt_ofNat_of_lt (by omega)
  have z0 : (0 : Int32).toNatClampNeg = 0 := rfl
  obtain ⟨T1, h1', L1, X1, e1', N1, K1, V, st⟩ := cpA X hx hZ hown w1 w2 w3 w4 eT V1 V2 (Or.inl ⟨rfl, hty⟩) (sp := 0) (dp := 0) (nn := nn) (by decide) (by decide) q2 (by rw [z0, q1, (own_idx e1).1]; omega) (by rw [z0, q1, (own_idx e2).1]; omega) rfl (by rw [z0, q1]; simp; omega) N ge (g := mkF m pc Ls (.int nn :: .int 0 :: .ref b :: .int 0 :: .ref a :: rest)) rfl hsize rfl hd hf (W := W) (by show 2 * 0 + _ ≤ _; omega) hlo
  refine Ends.by st (kk T1 h1' L1 X1 e1' N1 K1 ((own_af V e2).congr fun i hi => ?_))
  rw [z0, q1]
  simp only [List.take_zero, List.nil_append, Nat.zero_add]
  by_cases q : i < cnt
  · rw [if_pos q, List.getD_eq_getElem?_getD, List.getElem?_append_left (by simpa using q)]
    simp [q, List.getD_eq_getElem?_getD, show i < n by omega]
  · rw [if_neg q, List.getD_eq_getElem?_getD, List.getElem?_append_right (by simpa using Nat.le_of_not_lt q)]
    simp [List.getElem?_drop, show cnt + (i - cnt) = i by omega, hi]
end Own3
end Jvm.Pilot.@@N@@
namespace Jvm.Pilot.@@N@@
open Jvm Jvm.ClassFile Sem Op Lib Jvm.Free Jvm.Stand Jvm.LawKit Jvm.RoadKit Bundle Jvm.Pilot.@@N@@.Jvm.D
def HP (r5 : Nat → Int64) (B n : Nat) (fi : Nat → Int32) (fr : Nat → Int64) : Prop :=
  (∀ k, k < n → 0 ≤ (fi k).toInt ∧ (fi k).toInt < (B : Int) ∧ fr k = r5 (fi k).toInt.toNat) ∧ (∀ j k, j < n → k < n → fi j = fi k → j = k) ∧ ∀ k, 0 < k → k < n → (fr ((k - 1) / 2)).toInt ≤ (fr k).toInt
theorem HP.nil (r5 : Nat → Int64) (fi : Nat → Int32) (fr : Nat → Int64) : HP r5 0 0 fi fr := ⟨fun k h => by omega, fun j k h => by omega, fun k _ h => by omega⟩
theorem HP.congr {r5 : Nat → Int64} {B n : Nat} {fi fi' : Nat → Int32} {fr fr' : Nat → Int64} (H : HP r5 B n fi fr) (h1 : ∀ k, k < n → fi' k = fi k) (h2 : ∀ k, k < n → fr' k = fr k) : HP r5 B n fi' fr' := by
  obtain ⟨a, b, c⟩ := H
  refine ⟨fun k hk => by rw [h1 k hk, h2 k hk]; exact a k hk, fun j k hj hk q => b j k hj hk (by rw [← h1 j hj, ← h1 k hk]; exact q), fun k h0 hk => by rw [h2 k hk, h2 _ (by omega)]; exact c k h0 hk⟩
theorem HP.least {r5 : Nat → Int64} {B n : Nat} {fi : Nat → Int32} {fr : Nat → Int64} (H : HP r5 B n fi fr) : ∀ k, k < n → (fr 0).toInt ≤ (fr k).toInt := by
  intro k
  induction k using Nat.strongRecOn with
  | _ k ih =>
    intro hk
    by_cases q : k = 0
    · subst q; exact Int.le_refl _
    · exact Int.le_trans (ih ((k - 1) / 2) (by omega) (by omega)) (H.2.2 k (by omega) hk)
/-- the way up: a hole at I -/
def Up (r5 : Nat → Int64) (B n I : Nat) (gi : Nat → Int32) (gr : Nat → Int64) (rx : Int64) : Prop :=
  I ≤ n ∧ (∀ k, k ≤ n → k ≠ I → 0 ≤ (gi k).toInt ∧ (gi k).toInt < (B : Int) ∧ gr k = r5 (gi k).toInt.toNat) ∧ (∀ j k, j ≤ n → k ≤ n → j ≠ I → k ≠ I → gi j = gi k → j = k) ∧
  (∀ k, 0 < k → k ≤ n → k ≠ I → (k - 1) / 2 ≠ I → (gr ((k - 1) / 2)).toInt ≤ (gr k).toInt) ∧ ∀ k, 0 < k → k ≤ n → (k - 1) / 2 = I → rx.toInt ≤ (gr k).toInt ∧ (0 < I → (gr ((I - 1) / 2)).toInt ≤ (gr k).toInt)
theorem Up.start {r5 : Nat → Int64} {B n : Nat} {fi : Nat → Int32} {fr : Nat → Int64} (H : HP r5 B n fi fr) (rx : Int64) : Up r5 B n n fi fr rx := by
  obtain ⟨a, b, c⟩ := H
  exact ⟨Nat.le_refl _, fun k h1 h2 => a k (by omega), fun j k h1 h2 h3 h4 q => b j k (by omega) (by omega) q, fun k h0 h1 h2 h3 => c k h0 (by omega), fun k h0 h1 h2 => by omega⟩
theorem Up.move {r5 : Nat → Int64} {B n I : Nat} {gi : Nat → Int32} {gr : Nat → Int64} {rx : Int64} (H : Up r5 B n I gi gr rx) (hI : 0 < I) (hr : rx.toInt < (gr ((I - 1) / 2)).toInt) :
    Up r5 B n ((I - 1) / 2) (upd gi I (gi ((I - 1) / 2))) (upd gr I (gr ((I - 1) / 2))) rx := by
  obtain ⟨h0, a, b, c, d⟩ := H
  obtain ⟨J, hJ⟩ : ∃ J, J = (I - 1) / 2 := ⟨_, rfl⟩
  rw [← hJ] at hr ⊢
  have hJI : J < I := by omega
  refine ⟨by omega, fun k h1 h2 => ?_, fun j k h1 h2 h3 h4 q => ?_, fun k k0 h1 h2 h3 => ?_, fun k k0 h1 h2 => ?_⟩
  · by_cases z : k = I
    · subst z; rw [upd_hit, upd_hit]; exact a J (by omega) (by omega)
    · rw [upd_miss _ _ z, upd_miss _ _ z]; exact a k h1 z
  · by_cases z : j = I
    · by_cases w : k = I
      · omega
      · rw [z, upd_hit, upd_miss _ _ w] at q
        exact absurd (b J k (by omega) h2 (by omega) w q) (Ne.symm h4)
    · by_cases w : k = I
      · rw [w, upd_hit, upd_miss _ _ z] at q
        exact absurd (b j J h1 (by omega) z (by omega) q) h3
      · rw [upd_miss _ _ z, upd_miss _ _ w] at q
        exact b j k h1 h2 z w q
  · by_cases z : k = I
    · exact absurd (by rw [z, ← hJ]) h3
    · rw [upd_miss _ _ z]
      by_cases w : (k - 1) / 2 = I
      · rw [w, upd_hit, hJ]; exact (d k k0 h1 w).2 hI
      · rw [upd_miss _ _ w]; exact c k k0 h1 z w
  · by_cases z : k = I
    · rw [z, upd_hit]
      refine ⟨by omega, fun hJ0 => ?_⟩
      rw [upd_miss _ _ (by omega)]
      exact c J hJ0 (by omega) (by omega) (by omega)
    · rw [upd_miss _ _ z]
      have e := c k k0 h1 z (by omega)
      rw [h2] at e
      refine ⟨by omega, fun hJ0 => ?_⟩
      rw [upd_miss _ _ (by omega)]
      exact Int.le_trans (c J hJ0 (by omega) (by omega) (by omega)) e
theorem Up.fin {r5 : Nat → Int64} {B n I : Nat} {gi : Nat → Int32} {gr : Nat → Int64} {rx : Int64} {x' : Int32} (H : Up r5 B n I gi gr rx) (hI : I = 0 ∨ (gr ((I - 1) / 2)).toInt ≤ rx.toInt) (hx : x'.toInt = (B : Int)) (hr : rx = r5 B) :
    HP r5 (B + 1) (n + 1) (upd gi I x') (upd gr I rx) := by
  obtain ⟨h0, a, b, c, d⟩ := H
  refine ⟨fun k hk => ?_, fun j k hj hk q => ?_, fun k k0 hk => ?_⟩
  · by_cases z : k = I
    · subst z; rw [upd_hit, upd_hit]
      refine ⟨by omega, by omega, ?_⟩
      rw [hr, hx]; rfl
    · rw [upd_miss _ _ z, upd_miss _ _ z]
      have := a k (by omega) z
      exact ⟨this.1, by omega, this.2.2⟩
  · by_cases z : j = I
    · by_cases w : k = I
      · omega
      · rw [z, upd_hit, upd_miss _ _ w] at q
        have := a k (by omega) w
        rw [← q] at this; omega
    · by_cases w : k = I
      · rw [w, upd_hit, upd_miss _ _ z] at q
        have := a j (by omega) z
        rw [q] at this; omega
      · rw [upd_miss _ _ z, upd_miss _ _ w] at q
        exact b j k (by omega) (by omega) z w q
  · by_cases z : k = I
    · subst z
      rw [upd_hit, upd_miss _ _ (by omega)]
      rcases hI with hI | hI
      · omega
      · exact hI
    · rw [upd_miss _ _ z]
      by_cases w : (k - 1) / 2 = I
      · rw [w, upd_hit]; exact (d k k0 (by omega) w).1
      · rw [upd_miss _ _ w]; exact c k k0 (by omega) z w
/-- the way down: a hole at H among the first n -/
def Dn (r5 : Nat → Int64) (B : Nat) (fi : Nat → Int32) (t : Int32) (n H : Nat) (gi : Nat → Int32) (gr : Nat → Int64) (xl : Int32) (rl : Int64) : Prop :=
  (∀ k, k < n → k ≠ H → 0 ≤ (gi k).toInt ∧ (gi k).toInt < (B : Int) ∧ gr k = r5 (gi k).toInt.toNat ∧ gi k ≠ t ∧ (∃ j, j < n + 1 ∧ gi k = fi j) ∧ gi k ≠ xl) ∧ (∀ j k, j < n → k < n → j ≠ H → k ≠ H → gi j = gi k → j = k) ∧
  (∀ k, 0 < k → k < n → k ≠ H → (k - 1) / 2 ≠ H → (gr ((k - 1) / 2)).toInt ≤ (gr k).toInt) ∧ (0 < H → H < n ∧ (gr ((H - 1) / 2)).toInt ≤ rl.toInt) ∧ ∀ k, 0 < k → k < n → (k - 1) / 2 = H → 0 < H → (gr ((H - 1) / 2)).toInt ≤ (gr k).toInt
theorem Dn.start {r5 : Nat → Int64} {B n : Nat} {fi : Nat → Int32} {fr : Nat → Int64} (H : HP r5 B (n + 1) fi fr) : Dn r5 B fi (fi 0) n 0 fi fr (fi n) (fr n) := by
  obtain ⟨a, b, c⟩ := H
  refine ⟨fun k h1 h2 => ?_, fun j k h1 h2 _ _ q => b j k (by omega) (by omega) q, fun k h0 h1 _ _ => c k h0 (by omega), fun h => by omega, fun k _ _ _ h => by omega⟩
  have q := a k (by omega)
  exact ⟨q.1, q.2.1, q.2.2, fun z => h2 (b k 0 (by omega) (by omega) z), ⟨k, by omega, rfl⟩, fun z => by have := b k n (by omega) (by omega) z; omega⟩
theorem Dn.move {r5 : Nat → Int64} {B n H c : Nat} {fi gi : Nat → Int32} {t xl : Int32} {gr : Nat → Int64} {rl : Int64} (D : Dn r5 B fi t n H gi gr xl rl) (hc : c < n) (hp : (c - 1) / 2 = H) (h0 : 0 < c) (hl : (gr c).toInt < rl.toInt) (hm : ∀ k, 0 < k → k < n → (k - 1) / 2 = H → (gr c).toInt ≤ (gr k).toInt) :
    Dn r5 B fi t n c (upd gi H (gi c)) (upd gr H (gr c)) xl rl := by
  obtain ⟨a, b, cc, d, e⟩ := D
  have hcH : H < c := by omega
  refine ⟨fun k h1 h2 => ?_, fun j k h1 h2 h3 h4 q => ?_, fun k k0 h1 h2 h3 => ?_, fun _ => ⟨hc, ?_⟩, fun k k0 h1 h2 _ => ?_⟩
  · by_cases z : k = H
    · subst z; rw [upd_hit, upd_hit]; exact a c hc (by omega)
    · rw [upd_miss _ _ z, upd_miss _ _ z]; exact a k h1 z
  · by_cases z : j = H
    · by_cases w : k = H
      · omega
      · rw [z, upd_hit, upd_miss _ _ w] at q
        exact absurd (b c k hc h2 (by omega) w q) (Ne.symm h4)
    · by_cases w : k = H
      · rw [w, upd_hit, upd_miss _ _ z] at q
        exact absurd (b j c h1 hc z (by omega) q) h3
      · rw [upd_miss _ _ z, upd_miss _ _ w] at q
        exact b j k h1 h2 z w q
  · by_cases z : k = H
    · rw [z, upd_hit, upd_miss _ _ (by omega)]
      exact e c h0 hc hp (by omega)
    · rw [upd_miss _ _ z]
      by_cases w : (k - 1) / 2 = H
      · rw [w, upd_hit]; exact hm k k0 h1 w
      · rw [upd_miss _ _ w]; exact cc k k0 h1 z w
  · rw [hp, upd_hit]; omega
  · rw [hp, upd_hit, upd_miss _ _ (by omega)]
    have := cc k k0 h1 (by omega) (by omega)
    rw [h2] at this; exact this
theorem Dn.fin {r5 : Nat → Int64} {B n H : Nat} {fi gi : Nat → Int32} {t xl : Int32} {gr : Nat → Int64} {rl : Int64} (D : Dn r5 B fi t n H gi gr xl rl) (hm : ∀ k, 0 < k → k < n → (k - 1) / 2 = H → rl.toInt ≤ (gr k).toInt)
    (hx : 0 < n → 0 ≤ xl.toInt ∧ xl.toInt < (B : Int) ∧ rl = r5 xl.toInt.toNat ∧ xl ≠ t ∧ ∃ j, j < n + 1 ∧ xl = fi j) :
    HP r5 B n (upd gi H xl) (upd gr H rl) ∧ ∀ k, k < n → upd gi H xl k ≠ t ∧ ∃ j, j < n + 1 ∧ upd gi H xl k = fi j := by
  obtain ⟨a, b, cc, d, e⟩ := D
  refine ⟨⟨fun k hk => ?_, fun j k hj hk q => ?_, fun k k0 hk => ?_⟩, fun k hk => ?_⟩
  · have q := hx (by omega)
    by_cases z : k = H
    · subst z; rw [upd_hit, upd_hit]; exact ⟨q.1, q.2.1, q.2.2.1⟩
    · rw [upd_miss _ _ z, upd_miss _ _ z]; have := a k hk z; exact ⟨this.1, this.2.1, this.2.2.1⟩
  · by_cases z : j = H
    · by_cases w : k = H
      · omega
      · rw [z, upd_hit, upd_miss _ _ w] at q
        exact absurd q.symm (a k hk w).2.2.2.2.2
    · by_cases w : k = H
      · rw [w, upd_hit, upd_miss _ _ z] at q
        exact absurd q (a j hj z).2.2.2.2.2
      · rw [upd_miss _ _ z, upd_miss _ _ w] at q
        exact b j k hj hk z w q
  · by_cases z : k = H
    · subst z
      rw [upd_hit, upd_miss _ _ (by omega)]
      exact (d k0).2
    · rw [upd_miss _ _ z]
      by_cases w : (k - 1) / 2 = H
      · rw [w, upd_hit]; exact hm k k0 hk w
      · rw [upd_miss _ _ w]; exact cc k k0 hk z w
  · by_cases z : k = H
    · rw [z, upd_hit]; have q := hx (by omega); exact ⟨q.2.2.2.1, q.2.2.2.2⟩
    · rw [upd_miss _ _ z]; have := a k hk z; exact ⟨this.2.2.2.1, this.2.2.2.2.1⟩
def own_cpI (n : Nat) (g : Nat → Int32) : Nat → Int32 := fun q => if q < n then g q else 0
def own_cpJ (n : Nat) (g : Nat → Int64) : Nat → Int64 := fun q => if q < n then g q else 0
theorem HP.grown {r5 : Nat → Int64} {B n N : Nat} {fi : Nat → Int32} {fr : Nat → Int64} (H : HP r5 B n fi fr) (h : n ≤ N) : HP r5 B n (own_cpI N fi) (own_cpJ N fr) :=
  H.congr (fun k hk => if_pos (by omega)) (fun k hk => if_pos (by omega))
theorem own_par {i : Int32} {k : Nat} (h : i.toInt = (k : Int)) (h0 : (0 : Int32) < i) : ((i - (1 : Int32)) / (2 : Int32)).toInt = (((k - 1) / 2 : Nat) : Int) := by
  rw [Int32.lt_iff_toInt_lt] at h0
  have e0 : (0 : Int32).toInt = 0 := by decide
  have e1 : (1 : Int32).toInt = 1 := by decide
  have e2 := c_isub i 1
  have r := rng32 (i - 1)
  have r' := rng32 i
  have e3 := (c_idiv (i - 1) 2 2 (by decide) (by decide)).1 (by omega)
  omega
theorem own_pos {i : Int32} {k : Nat} (h : i.toInt = (k : Int)) (h0 : (0 : Int32) < i) : 0 < k := by
  rw [Int32.lt_iff_toInt_lt] at h0
  have e0 : (0 : Int32).toInt = 0 := by decide
  omega
theorem own_zero {i : Int32} {k : Nat} (h : i.toInt = (k : Int)) (h0 : ¬ (0 : Int32) < i) : k = 0 := by
  rw [Int32.lt_iff_toInt_lt] at h0
  have e0 : (0 : Int32).toInt = 0 := by decide
  omega
theorem own_inc {i : Int32} {k : Nat} (h : i.toInt = (k : Int)) (hk : k ≤ 100) : (i + (1 : Int32)).toInt = ((k + 1 : Nat) : Int) := by
  have e1 : (1 : Int32).toInt = 1 := by decide
  have e2 := c_iadd i 1
  have r := rng32 (i + 1)
  omega
theorem own_dec {i : Int32} {k : Nat} (h : i.toInt = ((k + 1 : Nat) : Int)) : (i - (1 : Int32)).toInt = (k : Int) := by
  have e1 : (1 : Int32).toInt = 1 := by decide
  have e2 := c_isub i 1
  have r := rng32 (i - 1)
  have r' := rng32 i
  omega
theorem own_dbl {i : Int32} {k : Nat} (h : i.toInt = (k : Int)) (hk : k ≤ 100) : ((2 : Int32) * i).toInt = ((2 * k : Nat) : Int) := by
  have e2 := c_imul 2 i
  have r := rng32 (2 * i)
  have e1 : (2 : Int32).toInt = 2 := by decide
  rw [e1] at e2
  omega
theorem own_lw {u w : Int64} : (lcmpW u w < (0 : Int32)) ↔ u.toInt < w.toInt := by rw [lw_lt, Int64.lt_iff_toInt_lt]
theorem own_gw {u w : Int64} : ((0 : Int32) < lcmpW u w) ↔ w.toInt < u.toInt := by rw [lw_gt, Int64.lt_iff_toInt_lt]
theorem own_or31 : ∀ a b c d e : Fin 5, a = b ∨ a = c ∨ a = d ∨ a = e ∨ b = c ∨ b = d ∨ b = e ∨ c = d ∨ c = e ∨ d = e ∨
    (((((1 : Int32) <<< (Int32.ofNat a.1 &&& 31)) ||| ((1 : Int32) <<< (Int32.ofNat b.1 &&& 31))) ||| ((1 : Int32) <<< (Int32.ofNat c.1 &&& 31))) ||| ((1 : Int32) <<< (Int32.ofNat d.1 &&& 31))) ||| ((1 : Int32) <<< (Int32.ofNat e.1 &&& 31)) = 31 := by decide +kernel
theorem own_fin5 {t : Int32} (h : 0 ≤ t.toInt ∧ t.toInt < 5) : ∃ k : Fin 5, t = Int32.ofNat k.1 ∧ t.toInt = (k.1 : Int) := by
  refine ⟨⟨t.toInt.toNat, by omega⟩, ?_, by show t.toInt = ((t.toInt.toNat : Nat) : Int); omega⟩
  apply Int32.toInt_inj.mp
  rw [Int32.toInt_ofNat_of_lt (by show t.toInt.toNat < _; omega)]
  show t.toInt = ((t.toInt.toNat : Nat) : Int); omega

theorem d3_0 : decode jdk_29_method_65_code 0 = .ok (.iload_n 0, 1) := by decide +kernel
theorem d3_1 : decode jdk_29_method_65_code 1 = .ok (.iload_n 1, 1) := by decide +kernel
theorem d3_2 : decode jdk_29_method_65_code 2 = .ok (.if_icmp .lt 7, 3) := by decide +kernel
theorem d3_5 : decode jdk_29_method_65_code 5 = .ok (.iload_n 0, 1) := by decide +kernel
theorem d3_6 : decode jdk_29_method_65_code 6 = .ok (.goto 4, 3) := by decide +kernel
theorem d3_9 : decode jdk_29_method_65_code 9 = .ok (.iload_n 1, 1) := by decide +kernel
theorem d3_10 : decode jdk_29_method_65_code 10 = .ok (.ireturn, 1) := by decide +kernel
theorem pd_3 : parseMethodDescriptor "(II)I" = some ⟨[.int, .int], some .int⟩ := by decide +kernel
theorem pf_3 : plainFor (⟨"java/lang/Math", "max", "(II)I"⟩ : MethodName) = true := Jvm.Free.JP.mathPlain rfl (by decide +kernel)
theorem ef_3 (m : MethodId) (u : Int32) (w : Int32) : entryFrame m #[(.int u), (.int w)] 2 = mkF m 0 #[.val (.int u), .val (.int w)] [] := by first | (simp [entryFrame, mkF, argsToLocals, Value.category]; done) | rfl
def f_3 (u : Int32) (w : Int32) : Int32 :=
  if u < w then w
  else u
set_option maxRecDepth 65536 in
set_option maxHeartbeats 40000000 in
theorem con_3 (l : Launch) (Z : State) (a0 : Array Value) (hw : ∀ d ∈ tables_1, d.before a0 Z = true) (u : Int32) (w : Int32) (h0 : Heap) : Con l Z (⟨"java/lang/Math", "max", "(II)I"⟩ : MethodName) jdk_29_method_65_code 2 (some .int) ({ frames := 0, cells := 0, slots := 0, locals := 0 } : Room) #[(.int u), (.int w)] h0 (Pure h0 (some (.int (f_3 u w)))) := by
  refine Con.intro pf_3 ?_
  intro p e s m below meth c s₁ hx hby hml hown hnm hret hlk hZ X0 e0
  refine Ends.cast (ef_3 m u w) ?_
  refine Ends.by (fun _ => XS.iloadN X0.here hx rfl (hb hby d3_0) rfl) ?_
  show Ends p e below _ s₁ (mkF m 1 #[.val (.int u), .val (.int w)] [(.int u)])
  refine Ends.by (fun _ => XS.iloadN X0.here hx rfl (hb hby d3_1) rfl) ?_
  show Ends p e below _ s₁ (mkF m 2 #[.val (.int u), .val (.int w)] [(.int w), (.int u)])
  refine Ends.icmp X0 hx (hb hby d3_2) 9 (by decide) (by decide) (fun q => ?_) (fun q => ?_)
  · have c2 : u < w := own_lt.1 q
    show Ends p e below _ s₁ (mkF m 9 #[.val (.int u), .val (.int w)] [])
    refine Ends.by (fun _ => XS.iloadN X0.here hx rfl (hb hby d3_9) rfl) ?_
    show Ends p e below _ s₁ (mkF m 10 #[.val (.int u), .val (.int w)] [(.int w)])
    exact Ends.retI X0 hx hlk hret (hb hby d3_10) (by decide) (by decide) ⟨by rw [f_3, if_pos c2], e0, rfl⟩
  · have c2 : ¬ (u < w) := own_lt.2 q
    show Ends p e below _ s₁ (mkF m 5 #[.val (.int u), .val (.int w)] [])
    refine Ends.by (fun _ => XS.iloadN X0.here hx rfl (hb hby d3_5) rfl) ?_
    show Ends p e below _ s₁ (mkF m 6 #[.val (.int u), .val (.int w)] [(.int u)])
    refine Ends.by (fun _ => XS.goto X0.here hx rfl (pc0 := 6) (pc' := 10) rfl (hb hby d3_6) (by decide) (by decide)) ?_
    show Ends p e below _ s₁ (mkF m 10 #[.val (.int u), .val (.int w)] [(.int u)])
    exact Ends.retI X0 hx hlk hret (hb hby d3_10) (by decide) (by decide) ⟨by rw [f_3, if_neg c2], e0, rfl⟩
theorem d6_0 : decode jdk_29_method_69_code 0 = .ok (.iload_n 0, 1) := by decide +kernel
theorem d6_1 : decode jdk_29_method_69_code 1 = .ok (.iload_n 1, 1) := by decide +kernel
theorem d6_2 : decode jdk_29_method_69_code 2 = .ok (.if_icmp .gt 7, 3) := by decide +kernel
theorem d6_5 : decode jdk_29_method_69_code 5 = .ok (.iload_n 0, 1) := by decide +kernel
theorem d6_6 : decode jdk_29_method_69_code 6 = .ok (.goto 4, 3) := by decide +kernel
theorem d6_9 : decode jdk_29_method_69_code 9 = .ok (.iload_n 1, 1) := by decide +kernel
theorem d6_10 : decode jdk_29_method_69_code 10 = .ok (.ireturn, 1) := by decide +kernel
theorem pd_6 : parseMethodDescriptor "(II)I" = some ⟨[.int, .int], some .int⟩ := by decide +kernel
theorem pf_6 : plainFor (⟨"java/lang/Math", "min", "(II)I"⟩ : MethodName) = true := Jvm.Free.JP.mathPlain rfl (by decide +kernel)
theorem ef_6 (m : MethodId) (u : Int32) (w : Int32) : entryFrame m #[(.int u), (.int w)] 2 = mkF m 0 #[.val (.int u), .val (.int w)] [] := by first | (simp [entryFrame, mkF, argsToLocals, Value.category]; done) | rfl
def f_6 (u : Int32) (w : Int32) : Int32 :=
  if w < u then w
  else u
set_option maxRecDepth 65536 in
set_option maxHeartbeats 40000000 in
theorem con_6 (l : Launch) (Z : State) (a0 : Array Value) (hw : ∀ d ∈ tables_1, d.before a0 Z = true) (u : Int32) (w : Int32) (h0 : Heap) : Con l Z (⟨"java/lang/Math", "min", "(II)I"⟩ : MethodName) jdk_29_method_69_code 2 (some .int) ({ frames := 0, cells := 0, slots := 0, locals := 0 } : Room) #[(.int u), (.int w)] h0 (Pure h0 (some (.int (f_6 u w)))) := by
  refine Con.intro pf_6 ?_
  intro p e s m below meth c s₁ hx hby hml hown hnm hret hlk hZ X0 e0
  refine Ends.cast (ef_6 m u w) ?_
  refine Ends.by (fun _ => XS.iloadN X0.here hx rfl (hb hby d6_0) rfl) ?_
  show Ends p e below _ s₁ (mkF m 1 #[.val (.int u), .val (.int w)] [(.int u)])
  refine Ends.by (fun _ => XS.iloadN X0.here hx rfl (hb hby d6_1) rfl) ?_
  show Ends p e below _ s₁ (mkF m 2 #[.val (.int u), .val (.int w)] [(.int w), (.int u)])
  refine Ends.icmp X0 hx (hb hby d6_2) 9 (by decide) (by decide) (fun q => ?_) (fun q => ?_)
  · have c2 : w < u := own_gt.1 q
    show Ends p e below _ s₁ (mkF m 9 #[.val (.int u), .val (.int w)] [])
    refine Ends.by (fun _ => XS.iloadN X0.here hx rfl (hb hby d6_9) rfl) ?_
    show Ends p e below _ s₁ (mkF m 10 #[.val (.int u), .val (.int w)] [(.int w)])
    exact Ends.retI X0 hx hlk hret (hb hby d6_10) (by decide) (by decide) ⟨by rw [f_6, if_pos c2], e0, rfl⟩
  · have c2 : ¬ (w < u) := own_gt.2 q
    show Ends p e below _ s₁ (mkF m 5 #[.val (.int u), .val (.int w)] [])
    refine Ends.by (fun _ => XS.iloadN X0.here hx rfl (hb hby d6_5) rfl) ?_
    show Ends p e below _ s₁ (mkF m 6 #[.val (.int u), .val (.int w)] [(.int u)])
    refine Ends.by (fun _ => XS.goto X0.here hx rfl (pc0 := 6) (pc' := 10) rfl (hb hby d6_6) (by decide) (by decide)) ?_
    show Ends p e below _ s₁ (mkF m 10 #[.val (.int u), .val (.int w)] [(.int u)])
    exact Ends.retI X0 hx hlk hret (hb hby d6_10) (by decide) (by decide) ⟨by rw [f_6, if_neg c2], e0, rfl⟩
theorem d9_0 : decode method_3_code 0 = .ok (.iload_n 0, 1) := by decide +kernel
theorem d9_1 : decode method_3_code 1 = .ok (.ifCond .lt 12, 3) := by decide +kernel
theorem d9_4 : decode method_3_code 4 = .ok (.iload_n 0, 1) := by decide +kernel
theorem d9_5 : decode method_3_code 5 = .ok (.iconst 5, 1) := by decide +kernel
theorem d9_6 : decode method_3_code 6 = .ok (.if_icmp .ge 7, 3) := by decide +kernel
theorem d9_9 : decode method_3_code 9 = .ok (.iconst 1, 1) := by decide +kernel
theorem d9_10 : decode method_3_code 10 = .ok (.goto 4, 3) := by decide +kernel
theorem d9_13 : decode method_3_code 13 = .ok (.iconst 0, 1) := by decide +kernel
theorem d9_14 : decode method_3_code 14 = .ok (.ireturn, 1) := by decide +kernel
theorem pd_9 : parseMethodDescriptor "(I)Z" = some ⟨[.int], some .boolean⟩ := by decide +kernel
theorem pf_9 : plainFor (⟨"com/example/tiefast/tiefast/IdHeapTakeFirstPinLaw", "in", "(I)Z"⟩ : MethodName) = true := plainFor_of_name (by first | (simp [plainName, overriddenIn, x]; done) | decide +kernel)
theorem ef_9 (m : MethodId) (u : Int32) : entryFrame m #[(.int u)] 1 = mkF m 0 #[.val (.int u)] [] := by first | (simp [entryFrame, mkF, argsToLocals, Value.category]; done) | rfl
def f_9 (u : Int32) : Int32 :=
  if u < (0 : Int32) then (0 : Int32)
  else if u < (5 : Int32) then (1 : Int32)
  else (0 : Int32)
set_option maxRecDepth 65536 in
set_option maxHeartbeats 40000000 in
theorem con_9 (l : Launch) (Z : State) (a0 : Array Value) (hw : ∀ d ∈ tables_1, d.before a0 Z = true) (u : Int32) (h0 : Heap) : Con l Z (⟨"com/example/tiefast/tiefast/IdHeapTakeFirstPinLaw", "in", "(I)Z"⟩ : MethodName) method_3_code 1 (some .boolean) ({ frames := 0, cells := 0, slots := 0, locals := 0 } : Room) #[(.int u)] h0 (Pure h0 (some (.int (f_9 u)))) := by
  refine Con.intro pf_9 ?_
  intro p e s m below meth c s₁ hx hby hml hown hnm hret hlk hZ X0 e0
  refine Ends.cast (ef_9 m u) ?_
  refine Ends.by (fun _ => XS.iloadN X0.here hx rfl (hb hby d9_0) rfl) ?_
  show Ends p e below _ s₁ (mkF m 1 #[.val (.int u)] [(.int u)])
  refine Ends.ifc X0 hx (hb hby d9_1) 13 (by decide) (by decide) (fun q => ?_) (fun q => ?_)
  · have c1 : u < (0 : Int32) := own_lt.1 q
    show Ends p e below _ s₁ (mkF m 13 #[.val (.int u)] [])
    refine Ends.by (fun _ => XS.iconst X0.here hx rfl (hb hby d9_13)) ?_
    show Ends p e below _ s₁ (mkF m 14 #[.val (.int u)] [(.int (0 : Int32))])
    exact Ends.retZ X0 hx hlk hret (hb hby d9_14) (by first | decide | (simp; done) | exact w01) (by decide) (by decide) ⟨by rw [f_9, if_pos c1], e0, rfl⟩
  · have c1 : ¬ (u < (0 : Int32)) := own_lt.2 q
    show Ends p e below _ s₁ (mkF m 4 #[.val (.int u)] [])
    refine Ends.by (fun _ => XS.iloadN X0.here hx rfl (hb hby d9_4) rfl) ?_
    show Ends p e below _ s₁ (mkF m 5 #[.val (.int u)] [(.int u)])
    refine Ends.by (fun _ => XS.iconst X0.here hx rfl (hb hby d9_5)) ?_
    show Ends p e below _ s₁ (mkF m 6 #[.val (.int u)] [(.int (5 : Int32)), (.int u)])
    refine Ends.icmp X0 hx (hb hby d9_6) 13 (by decide) (by decide) (fun q => ?_) (fun q => ?_)
    · have c6 : ¬ (u < (5 : Int32)) := own_ge.1 q
      show Ends p e below _ s₁ (mkF m 13 #[.val (.int u)] [])
      refine Ends.by (fun _ => XS.iconst X0.here hx rfl (hb hby d9_13)) ?_
      show Ends p e below _ s₁ (mkF m 14 #[.val (.int u)] [(.int (0 : Int32))])
      exact Ends.retZ X0 hx hlk hret (hb hby d9_14) (by first | decide | (simp; done) | exact w01) (by decide) (by decide) ⟨by rw [f_9, if_neg c1, if_neg c6], e0, rfl⟩
    · have c6 : u < (5 : Int32) := own_ge.2 q
      show Ends p e below _ s₁ (mkF m 9 #[.val (.int u)] [])
      refine Ends.by (fun _ => XS.iconst X0.here hx rfl (hb hby d9_9)) ?_
      show Ends p e below _ s₁ (mkF m 10 #[.val (.int u)] [(.int (1 : Int32))])
      refine Ends.by (fun _ => XS.goto X0.here hx rfl (pc0 := 10) (pc' := 14) rfl (hb hby d9_10) (by decide) (by decide)) ?_
      show Ends p e below _ s₁ (mkF m 14 #[.val (.int u)] [(.int (1 : Int32))])
      exact Ends.retZ X0 hx hlk hret (hb hby d9_14) (by first | decide | (simp; done) | exact w01) (by decide) (by decide) ⟨by rw [f_9, if_neg c1, if_pos c6], e0, rfl⟩
theorem own_max {u : Int32} (h : -1 ≤ u.toInt ∧ u.toInt ≤ 6) : ∃ n : Nat, (f_3 (1 : Int32) u).toInt = (n : Int) ∧ 1 ≤ n ∧ n ≤ 6 := by
  have e1 : (1 : Int32).toInt = 1 := by decide
  unfold f_3
  split
  · rename_i q; rw [Int32.lt_iff_toInt_lt] at q
    exact ⟨u.toInt.toNat, by omega, by omega, by omega⟩
  · exact ⟨1, by decide, by decide, by decide⟩
theorem own_min {u w : Int32} {N N' : Nat} (hu : u.toInt = (N : Int)) (hw : w.toInt = (N' : Int)) (h : N ≤ N') : (f_6 u w).toInt = (N : Int) := by
  unfold f_6
  split
  · rename_i q; rw [Int32.lt_iff_toInt_lt] at q; omega
  · exact hu
theorem own_len {Z : State} {h : Heap} {a : Addr} {ty : FieldType} {n : Nat} {f : Nat → Value} (A : Af Z h a ty n f) : (Int32.ofNat n).toInt = (n : Int) := Int32.toInt_ofNat_of_lt (by have := A.small; omega)
theorem d1_0 : decode prog_19_method_1_code 0 = .ok (.aload_n 0, 1) := by decide +kernel
theorem d1_1 : decode prog_19_method_1_code 1 = .ok (.invokespecial 1, 3) := by decide +kernel
theorem d1_4 : decode prog_19_method_1_code 4 = .ok (.aload_n 0, 1) := by decide +kernel
theorem d1_5 : decode prog_19_method_1_code 5 = .ok (.iconst 1, 1) := by decide +kernel
theorem d1_6 : decode prog_19_method_1_code 6 = .ok (.iload_n 1, 1) := by decide +kernel
theorem d1_7 : decode prog_19_method_1_code 7 = .ok (.invokestatic 7, 3) := by decide +kernel
theorem d1_10 : decode prog_19_method_1_code 10 = .ok (.newarray .int, 2) := by decide +kernel
theorem d1_12 : decode prog_19_method_1_code 12 = .ok (.putfield 13, 3) := by decide +kernel
theorem d1_15 : decode prog_19_method_1_code 15 = .ok (.aload_n 0, 1) := by decide +kernel
theorem d1_16 : decode prog_19_method_1_code 16 = .ok (.aload_n 0, 1) := by decide +kernel
theorem d1_17 : decode prog_19_method_1_code 17 = .ok (.getfield 13, 3) := by decide +kernel
theorem d1_20 : decode prog_19_method_1_code 20 = .ok (.arraylength, 1) := by decide +kernel
theorem d1_21 : decode prog_19_method_1_code 21 = .ok (.newarray .long, 2) := by decide +kernel
theorem d1_23 : decode prog_19_method_1_code 23 = .ok (.putfield 19, 3) := by decide +kernel
theorem d1_26 : decode prog_19_method_1_code 26 = .ok (.return_, 1) := by decide +kernel
theorem pd_1 : parseMethodDescriptor "(I)V" = some ⟨[.int], none⟩ := by decide +kernel
theorem pf_1 : plainFor (⟨"com/example/tiefast/tiefast/IdHeap", "<init>", "(I)V"⟩ : MethodName) = true := plainFor_of_name (by first | (simp [plainName, overriddenIn, x]; done) | decide +kernel)
theorem ef_1 (m : MethodId) (a : Addr) (n : Int32) : entryFrame m #[(.ref a), (.int n)] 2 = mkF m 0 #[.val (.ref a), .val (.int n)] [] := by first | (simp [entryFrame, mkF, argsToLocals, Value.category]; done) | rfl
set_option maxRecDepth 65536 in
set_option maxHeartbeats 40000000 in
theorem con_1 (l : Launch) (Z : State) (a0 : Array Value) (hw : ∀ d ∈ tables_1, d.before a0 Z = true) (a : Addr) (n : Int32) (k : Nat) (h0 : Heap) (n0 : Nat) (Z0 : n0 ≤ h0.size) (E0 : Exa Z h0 a "com/example/tiefast/tiefast/IdHeap") (F1 : Fld Z h0 a "com/example/tiefast/tiefast/IdHeap" "ids" "[I" .null) (F2 : Fld Z h0 a "com/example/tiefast/tiefast/IdHeap" "ranks" "[J" .null) (F3 : Fld Z h0 a "com/example/tiefast/tiefast/IdHeap" "size" "I" (.int (0 : Int32))) (ga : n0 ≤ a) (hk : (f_3 (1 : Int32) n).toInt = (k : Int)) (hk6 : k ≤ 6) : Con l Z (⟨"com/example/tiefast/tiefast/IdHeap", "<init>", "(I)V"⟩ : MethodName) prog_19_method_1_code 2 none ({ frames := 1, cells := 2, slots := 12, locals := 14 } : Room) #[(.ref a), (.int n)] h0 (fun v h L => ∃ ida rka : Addr, v = none ∧ Fr n0 L ∧ Keep h0 h [a] ∧ Exa Z h a "com/example/tiefast/tiefast/IdHeap" ∧ Fld Z h a "com/example/tiefast/tiefast/IdHeap" "ids" "[I" (.ref ida) ∧ Fld Z h a "com/example/tiefast/tiefast/IdHeap" "ranks" "[J" (.ref rka) ∧ Fld Z h a "com/example/tiefast/tiefast/IdHeap" "size" "I" (.int (0 : Int32)) ∧ Af Z h ida .int k (fun q => .int ((fun _ => (0 : Int32)) q)) ∧ Af Z h rka .long k (fun q => .long ((fun _ => (0 : Int64)) q)) ∧ n0 ≤ ida ∧ n0 ≤ rka) := by
  refine Con.intro pf_1 ?_
  intro p e s m below meth c s₁ hx hby hml hown hnm hret hlk hZ X0 e0
  refine Ends.cast (ef_1 m a n) ?_
  have N0 := Fr.nil n0
  have K0 : Keep h0 h0 [a] := Keep.refl _ _
  refine Ends.by (fun _ => XS.aloadN X0.here hx rfl (hb hby d1_0) rfl rfl) ?_
  show Ends p e below _ s₁ (mkF m 1 #[.val (.ref a), .val (.int n)] [(.ref a)])
  obtain ⟨T1, X1, e1, st1⟩ := initO X0 hx hZ hown (hw _ (List.mem_of_getElem? (i := 6) rfl)) (hw _ (List.mem_of_getElem? (i := 7) rfl)) (hw _ (List.mem_of_getElem? (i := 8) rfl)) e0 (g := (mkF m 1 #[.val (.ref a), .val (.int n)] [(.ref a)])) rfl (by rw [hml]; rfl) rfl (hb hby d1_1) (by decide) (W := 0) (by show 2 * 0 + _ ≤ _; exact Nat.le_of_eq rfl) (by decide)
  refine Ends.by st1 ?_
  show Ends p e below _ T1 (mkF m 4 #[.val (.ref a), .val (.int n)] [])
  refine Ends.by (fun _ => XS.aloadN X1.here hx rfl (hb hby d1_4) rfl rfl) ?_
  show Ends p e below _ T1 (mkF m 5 #[.val (.ref a), .val (.int n)] [(.ref a)])
  refine Ends.by (fun _ => XS.iconst X1.here hx rfl (hb hby d1_5)) ?_
  show Ends p e below _ T1 (mkF m 6 #[.val (.ref a), .val (.int n)] [(.int (1 : Int32)), (.ref a)])
  refine Ends.by (fun _ => XS.iloadN X1.here hx rfl (hb hby d1_6) rfl) ?_
  show Ends p e below _ T1 (mkF m 7 #[.val (.ref a), .val (.int n)] [(.int n), (.int (1 : Int32)), (.ref a)])
  refine Ends.callS (argsL := [(.int (1 : Int32)), (.int n)]) (rest := [(.ref a)]) X1 hx hZ hown (hw _ (List.mem_of_getElem? (i := 9) rfl)) (hw _ (List.mem_of_getElem? (i := 10) rfl)) (hw _ (List.mem_of_getElem? (i := 11) rfl)) (hw _ (List.mem_of_getElem? (i := 12) rfl)) (by decide) (con_3 l Z a0 hw (1 : Int32) n h0) e1 (by rw [hml]; rfl) (hb hby d1_7) (lenOf pd_3 rfl) 1 (Nat.le_of_eq rfl) (by decide) (by decide) (by decide) (by decide) ?_
  intro v T2 L2 X2 hQ
  obtain ⟨rfl, e2, rfl⟩ := hQ
  rw [List.append_nil] at X2
  show Ends p e below _ T2 (mkF m 10 #[.val (.ref a), .val (.int n)] [(.int (f_3 (1 : Int32) n)), (.ref a)])
  refine Ends.newA X2 hx hZ (hw _ (List.mem_of_getElem? (i := 13) rfl)) e2 hk 6 hk6 (by decide) (by decide) (by decide) rfl (ad := "[I") (by decide) (hb hby d1_10) ?_
  intro T3 h3 b3 g3 X3 e3 E3 A3 Q3
  have E_a_3 : Exa Z h3 a "com/example/tiefast/tiefast/IdHeap" := E0.ext E3
  have F_a_ids_3 : Fld Z h3 a "com/example/tiefast/tiefast/IdHeap" "ids" "[I" .null := F1.ext E3
  have F_a_ranks_3 : Fld Z h3 a "com/example/tiefast/tiefast/IdHeap" "ranks" "[J" .null := F2.ext E3
  have F_a_size_3 : Fld Z h3 a "com/example/tiefast/tiefast/IdHeap" "size" "I" (.int (0 : Int32)) := F3.ext E3
  have Z3 : n0 ≤ h3.size := Nat.le_trans Z0 E3.1
  have K3 : Keep h0 h3 [a] := K0.ext E3
  have g_b3 : n0 ≤ b3 := Nat.le_trans Z0 (Nat.le_of_eq g3.symm)
  have gz_b3 : h0.size ≤ b3 := Nat.le_trans K0.1 (Nat.le_of_eq g3.symm)
  have ne_a_b3 : a ≠ b3 := Nat.ne_of_lt (Nat.lt_of_lt_of_le E0.lt (Nat.le_of_eq g3.symm))
  have A_b3 : Af Z h3 b3 .int k (fun q => .int ((fun _ => (0 : Int32)) q)) := A3
  show Ends p e below _ T3 (mkF m 12 #[.val (.ref a), .val (.int n)] [(.ref b3), (.ref a)])
  obtain ⟨T4, h4, X4, e4, W4, st4⟩ := putF X3 hx hZ hown (host := "") (Or.inl (hw _ (List.mem_of_getElem? (i := 14) rfl))) Via.refl e3 F_a_ids_3 E_a_3 (Or.inl (hw _ (List.mem_of_getElem? (i := 15) rfl))) (hw _ (List.mem_of_getElem? (i := 1) rfl)) (ty := (.array .int)) (by decide) rfl rfl (g := (mkF m 12 #[.val (.ref a), .val (.int n)] [(.ref b3), (.ref a)])) rfl rfl (hb hby d1_12)
  refine Ends.by st4 ?_
  have F_a_ids_4 : Fld Z h4 a "com/example/tiefast/tiefast/IdHeap" "ids" "[I" (.ref b3) := F_a_ids_3.same W4
  have N4 := Fr.snoc X4 N0 ga
  have E_a_4 : Exa Z h4 a "com/example/tiefast/tiefast/IdHeap" := E_a_3.wr W4
  have F_a_ranks_4 : Fld Z h4 a "com/example/tiefast/tiefast/IdHeap" "ranks" "[J" .null := F_a_ranks_3.other W4 (Or.inr (slot_ne (Or.inl (hw _ (List.mem_of_getElem? (i := 18) rfl))) (Or.inl (hw _ (List.mem_of_getElem? (i := 15) rfl))) (by decide) (t := (.array .long)) (t' := (.array .int)) (by decide) (by decide)))
  have F_a_size_4 : Fld Z h4 a "com/example/tiefast/tiefast/IdHeap" "size" "I" (.int (0 : Int32)) := F_a_size_3.other W4 (Or.inr (slot_ne (Or.inl (hw _ (List.mem_of_getElem? (i := 25) rfl))) (Or.inl (hw _ (List.mem_of_getElem? (i := 15) rfl))) (by decide) (t := .int) (t' := (.array .int)) (by decide) (by decide)))
  have A_b3_4 : Af Z h4 b3 .int k (fun q => .int ((fun _ => (0 : Int32)) q)) := A_b3.other W4 (Ne.symm ne_a_b3)
  have E_b3_4 : Exa Z h4 b3 "[I" := Q3.wr W4
  have Z4 : n0 ≤ h4.size := Nat.le_trans Z3 (Nat.le_of_eq W4.size.symm)
  have K4 : Keep h0 h4 [a] := K3.wr W4 (Or.inl (List.mem_of_getElem? (i := 0) rfl))
  show Ends p e below _ T4 (mkF m 15 #[.val (.ref a), .val (.int n)] [])
  refine Ends.by (fun _ => XS.aloadN X4.here hx rfl (hb hby d1_15) rfl rfl) ?_
  show Ends p e below _ T4 (mkF m 16 #[.val (.ref a), .val (.int n)] [(.ref a)])
  refine Ends.by (fun _ => XS.aloadN X4.here hx rfl (hb hby d1_16) rfl rfl) ?_
  show Ends p e below _ T4 (mkF m 17 #[.val (.ref a), .val (.int n)] [(.ref a), (.ref a)])
  obtain ⟨T5, X5, e5, st5⟩ := getF X4 hx hZ hown (host := "") (Or.inl (hw _ (List.mem_of_getElem? (i := 14) rfl))) Via.refl e4 F_a_ids_4 (g := (mkF m 17 #[.val (.ref a), .val (.int n)] [(.ref a), (.ref a)])) rfl rfl (hb hby d1_17)
  refine Ends.by st5 ?_
  show Ends p e below _ T5 (mkF m 20 #[.val (.ref a), .val (.int n)] [(.ref b3), (.ref a)])
  refine Ends.len X5 hx hZ e5 A_b3_4 (z := (f_3 (1 : Int32) n)) hk (hb hby d1_20) ?_
  show Ends p e below _ T5 (mkF m 21 #[.val (.ref a), .val (.int n)] [(.int (f_3 (1 : Int32) n)), (.ref a)])
  refine Ends.newA X5 hx hZ (hw _ (List.mem_of_getElem? (i := 16) rfl)) e5 hk 6 hk6 (by decide) (by decide) (by decide) rfl (ad := "[J") (by decide) (hb hby d1_21) ?_
  intro T6 h6 b6 g6 X6 e6 E6 A6 Q6
  have E_a_6 : Exa Z h6 a "com/example/tiefast/tiefast/IdHeap" := E_a_4.ext E6
  have F_a_ranks_6 : Fld Z h6 a "com/example/tiefast/tiefast/IdHeap" "ranks" "[J" .null := F_a_ranks_4.ext E6
  have F_a_size_6 : Fld Z h6 a "com/example/tiefast/tiefast/IdHeap" "size" "I" (.int (0 : Int32)) := F_a_size_4.ext E6
  have A_b3_6 : Af Z h6 b3 .int k (fun q => .int ((fun _ => (0 : Int32)) q)) := A_b3_4.ext E6
  have E_b3_6 : Exa Z h6 b3 "[I" := E_b3_4.ext E6
  have F_a_ids_6 : Fld Z h6 a "com/example/tiefast/tiefast/IdHeap" "ids" "[I" (.ref b3) := F_a_ids_4.ext E6
  have Z6 : n0 ≤ h6.size := Nat.le_trans Z4 E6.1
  have K6 : Keep h0 h6 [a] := K4.ext E6
  have g_b6 : n0 ≤ b6 := Nat.le_trans Z4 (Nat.le_of_eq g6.symm)
  have gz_b6 : h0.size ≤ b6 := Nat.le_trans K4.1 (Nat.le_of_eq g6.symm)
  have ne_a_b6 : a ≠ b6 := Nat.ne_of_lt (Nat.lt_of_lt_of_le E_a_4.lt (Nat.le_of_eq g6.symm))
  have ne_b3_b6 : b3 ≠ b6 := Nat.ne_of_lt (Nat.lt_of_lt_of_le A_b3_4.lt (Nat.le_of_eq g6.symm))
  have A_b6 : Af Z h6 b6 .long k (fun q => .long ((fun _ => (0 : Int64)) q)) := A6
  show Ends p e below _ T6 (mkF m 23 #[.val (.ref a), .val (.int n)] [(.ref b6), (.ref a)])
  obtain ⟨T7, h7, X7, e7, W7, st7⟩ := putF X6 hx hZ hown (host := "") (Or.inl (hw _ (List.mem_of_getElem? (i := 17) rfl))) Via.refl e6 F_a_ranks_6 E_a_6 (Or.inl (hw _ (List.mem_of_getElem? (i := 18) rfl))) (hw _ (List.mem_of_getElem? (i := 1) rfl)) (ty := (.array .long)) (by decide) rfl rfl (g := (mkF m 23 #[.val (.ref a), .val (.int n)] [(.ref b6), (.ref a)])) rfl rfl (hb hby d1_23)
  refine Ends.by st7 ?_
  have F_a_ranks_7 : Fld Z h7 a "com/example/tiefast/tiefast/IdHeap" "ranks" "[J" (.ref b6) := F_a_ranks_6.same W7
  have N7 := Fr.snoc X7 N4 ga
  have E_a_7 : Exa Z h7 a "com/example/tiefast/tiefast/IdHeap" := E_a_6.wr W7
  have F_a_size_7 : Fld Z h7 a "com/example/tiefast/tiefast/IdHeap" "size" "I" (.int (0 : Int32)) := F_a_size_6.other W7 (Or.inr (slot_ne (Or.inl (hw _ (List.mem_of_getElem? (i := 25) rfl))) (Or.inl (hw _ (List.mem_of_getElem? (i := 18) rfl))) (by decide) (t := .int) (t' := (.array .long)) (by decide) (by decide)))
  have A_b3_7 : Af Z h7 b3 .int k (fun q => .int ((fun _ => (0 : Int32)) q)) := A_b3_6.other W7 (Ne.symm ne_a_b3)
  have E_b3_7 : Exa Z h7 b3 "[I" := E_b3_6.wr W7
  have F_a_ids_7 : Fld Z h7 a "com/example/tiefast/tiefast/IdHeap" "ids" "[I" (.ref b3) := F_a_ids_6.other W7 (Or.inr (slot_ne (Or.inl (hw _ (List.mem_of_getElem? (i := 15) rfl))) (Or.inl (hw _ (List.mem_of_getElem? (i := 18) rfl))) (by decide) (t := (.array .int)) (t' := (.array .long)) (by decide) (by decide)))
  have A_b6_7 : Af Z h7 b6 .long k (fun q => .long ((fun _ => (0 : Int64)) q)) := A_b6.other W7 (Ne.symm ne_a_b6)
  have E_b6_7 : Exa Z h7 b6 "[J" := Q6.wr W7
  have Z7 : n0 ≤ h7.size := Nat.le_trans Z6 (Nat.le_of_eq W7.size.symm)
  have K7 : Keep h0 h7 [a] := K6.wr W7 (Or.inl (List.mem_of_getElem? (i := 0) rfl))
  show Ends p e below _ T7 (mkF m 26 #[.val (.ref a), .val (.int n)] [])
  exact Ends.retV X7 hx hlk hret (hb hby d1_26) (by decide) (by decide) (by rw [e7]; exact ⟨b3, b6, rfl, N7, K7, E_a_7, F_a_ids_7, F_a_ranks_7, F_a_size_7, A_b3_7, A_b6_7, g_b3, g_b6⟩)
theorem d5_0 : decode jdk_65_method_123_code 0 = .ok (.iload_n 1, 1) := by decide +kernel
theorem d5_1 : decode jdk_65_method_123_code 1 = .ok (.aload_n 0, 1) := by decide +kernel
theorem d5_2 : decode jdk_65_method_123_code 2 = .ok (.arraylength, 1) := by decide +kernel
theorem d5_3 : decode jdk_65_method_123_code 3 = .ok (.if_icmp .ne 11, 3) := by decide +kernel
theorem d5_6 : decode jdk_65_method_123_code 6 = .ok (.aload_n 0, 1) := by decide +kernel
theorem d5_7 : decode jdk_65_method_123_code 7 = .ok (.invokevirtual 316, 3) := by decide +kernel
theorem d5_10 : decode jdk_65_method_123_code 10 = .ok (.checkcast 317, 3) := by decide +kernel
theorem d5_13 : decode jdk_65_method_123_code 13 = .ok (.areturn, 1) := by decide +kernel
theorem d5_14 : decode jdk_65_method_123_code 14 = .ok (.iload_n 1, 1) := by decide +kernel
theorem d5_15 : decode jdk_65_method_123_code 15 = .ok (.newarray .int, 2) := by decide +kernel
theorem d5_17 : decode jdk_65_method_123_code 17 = .ok (.astore_n 2, 1) := by decide +kernel
theorem d5_18 : decode jdk_65_method_123_code 18 = .ok (.aload_n 0, 1) := by decide +kernel
theorem d5_19 : decode jdk_65_method_123_code 19 = .ok (.iconst 0, 1) := by decide +kernel
theorem d5_20 : decode jdk_65_method_123_code 20 = .ok (.aload_n 2, 1) := by decide +kernel
theorem d5_21 : decode jdk_65_method_123_code 21 = .ok (.iconst 0, 1) := by decide +kernel
theorem d5_22 : decode jdk_65_method_123_code 22 = .ok (.aload_n 0, 1) := by decide +kernel
theorem d5_23 : decode jdk_65_method_123_code 23 = .ok (.arraylength, 1) := by decide +kernel
theorem d5_24 : decode jdk_65_method_123_code 24 = .ok (.iload_n 1, 1) := by decide +kernel
theorem d5_25 : decode jdk_65_method_123_code 25 = .ok (.invokestatic 304, 3) := by decide +kernel
theorem d5_28 : decode jdk_65_method_123_code 28 = .ok (.invokestatic 150, 3) := by decide +kernel
theorem d5_31 : decode jdk_65_method_123_code 31 = .ok (.aload_n 2, 1) := by decide +kernel
theorem d5_32 : decode jdk_65_method_123_code 32 = .ok (.areturn, 1) := by decide +kernel
theorem pd_5 : parseMethodDescriptor "([II)[I" = some ⟨[(.array .int), .int], some (.array .int)⟩ := by decide +kernel
theorem pf_5 : plainFor (⟨"java/util/Arrays", "copyOf", "([II)[I"⟩ : MethodName) = true := plainFor_of_name (by first | (simp [plainName, overriddenIn, x]; done) | decide +kernel)
theorem ef_5 (m : MethodId) (ar : Addr) (nl : Int32) : entryFrame m #[(.ref ar), (.int nl)] 3 = mkF m 0 #[.val (.ref ar), .val (.int nl), .unset] [] := by first | (simp [entryFrame, mkF, argsToLocals, Value.category]; done) | rfl
set_option maxRecDepth 65536 in
set_option maxHeartbeats 40000000 in
theorem con_5 (l : Launch) (Z : State) (a0 : Array Value) (hw : ∀ d ∈ tables_1, d.before a0 Z = true) (ar : Addr) (nl : Int32) (n n' : Nat) (g : Nat → Int32) (h0 : Heap) (n0 : Nat) (Z0 : n0 ≤ h0.size) (A0 : Af Z h0 ar .int n (fun q => .int (g q))) (hnl : nl.toInt = (n' : Int)) (hlt : n < n') (h8 : n' ≤ 8) : Con l Z (⟨"java/util/Arrays", "copyOf", "([II)[I"⟩ : MethodName) jdk_65_method_123_code 3 (some (.array .int)) ({ frames := 1, cells := 1, slots := 8, locals := 40 } : Room) #[(.ref ar), (.int nl)] h0 (fun v h L => ∃ b : Addr, v = some (.ref b) ∧ Fr n0 L ∧ Keep h0 h [] ∧ Af Z h b .int n' (fun q => .int ((own_cpI n g) q)) ∧ n0 ≤ b ∧ h0.size ≤ b) := by
  refine Con.intro pf_5 ?_
  intro p e s m below meth c s₁ hx hby hml hown hnm hret hlk hZ X0 e0
  refine Ends.cast (ef_5 m ar nl) ?_
  have N0 := Fr.nil n0
  have K0 : Keep h0 h0 [] := Keep.refl _ _
  refine Ends.by (fun _ => XS.iloadN X0.here hx rfl (hb hby d5_0) rfl) ?_
  show Ends p e below _ s₁ (mkF m 1 #[.val (.ref ar), .val (.int nl), .unset] [(.int nl)])
  refine Ends.by (fun _ => XS.aloadN X0.here hx rfl (hb hby d5_1) rfl rfl) ?_
  show Ends p e below _ s₁ (mkF m 2 #[.val (.ref ar), .val (.int nl), .unset] [(.ref ar), (.int nl)])
  refine Ends.len X0 hx hZ e0 A0 (z := (Int32.ofNat n)) (own_len A0) (hb hby d5_2) ?_
  show Ends p e below _ s₁ (mkF m 3 #[.val (.ref ar), .val (.int nl), .unset] [(.int (Int32.ofNat n)), (.int nl)])
  refine Ends.icmp X0 hx (hb hby d5_3) 14 (by decide) (by decide) (fun q => ?_) (fun q => ?_)
  · have c3 : ¬ (nl = (Int32.ofNat n)) := own_ne.1 q
    show Ends p e below _ s₁ (mkF m 14 #[.val (.ref ar), .val (.int nl), .unset] [])
    refine Ends.by (fun _ => XS.iloadN X0.here hx rfl (hb hby d5_14) rfl) ?_
    show Ends p e below _ s₁ (mkF m 15 #[.val (.ref ar), .val (.int nl), .unset] [(.int nl)])
    refine Ends.newA X0 hx hZ (hw _ (List.mem_of_getElem? (i := 13) rfl)) e0 hnl 8 h8 (by decide) (by decide) (by decide) rfl (ad := "[I") (by decide) (hb hby d5_15) ?_
    intro T1 h1 b1 g1 X1 e1 E1 A1 Q1
    have A_ar_1 : Af Z h1 ar .int n (fun q => .int (g q)) := A0.ext E1
    have Z1 : n0 ≤ h1.size := Nat.le_trans Z0 E1.1
    have K1 : Keep h0 h1 [] := K0.ext E1
    have g_b1 : n0 ≤ b1 := Nat.le_trans Z0 (Nat.le_of_eq g1.symm)
    have gz_b1 : h0.size ≤ b1 := Nat.le_trans K0.1 (Nat.le_of_eq g1.symm)
    have ne_ar_b1 : ar ≠ b1 := Nat.ne_of_lt (Nat.lt_of_lt_of_le A0.lt (Nat.le_of_eq g1.symm))
    have A_b1 : Af Z h1 b1 .int n' (fun q => .int ((fun _ => (0 : Int32)) q)) := A1
    show Ends p e below _ T1 (mkF m 17 #[.val (.ref ar), .val (.int nl), .unset] [(.ref b1)])
    refine Ends.by (fun _ => XS.astoreN X1.here hx rfl (hb hby d5_17) rfl rfl (l' := #[.val (.ref ar), .val (.int nl), .val (.ref b1)]) rfl) ?_
    show Ends p e below _ T1 (mkF m 18 #[.val (.ref ar), .val (.int nl), .val (.ref b1)] [])
    refine Ends.by (fun _ => XS.aloadN X1.here hx rfl (hb hby d5_18) rfl rfl) ?_
    show Ends p e below _ T1 (mkF m 19 #[.val (.ref ar), .val (.int nl), .val (.ref b1)] [(.ref ar)])
    refine Ends.by (fun _ => XS.iconst X1.here hx rfl (hb hby d5_19)) ?_
    show Ends p e below _ T1 (mkF m 20 #[.val (.ref ar), .val (.int nl), .val (.ref b1)] [(.int (0 : Int32)), (.ref ar)])
    refine Ends.by (fun _ => XS.aloadN X1.here hx rfl (hb hby d5_20) rfl rfl) ?_
    show Ends p e below _ T1 (mkF m 21 #[.val (.ref ar), .val (.int nl), .val (.ref b1)] [(.ref b1), (.int (0 : Int32)), (.ref ar)])
    refine Ends.by (fun _ => XS.iconst X1.here hx rfl (hb hby d5_21)) ?_
    show Ends p e below _ T1 (mkF m 22 #[.val (.ref ar), .val (.int nl), .val (.ref b1)] [(.int (0 : Int32)), (.ref b1), (.int (0 : Int32)), (.ref ar)])
    refine Ends.by (fun _ => XS.aloadN X1.here hx rfl (hb hby d5_22) rfl rfl) ?_
    show Ends p e below _ T1 (mkF m 23 #[.val (.ref ar), .val (.int nl), .val (.ref b1)] [(.ref ar), (.int (0 : Int32)), (.ref b1), (.int (0 : Int32)), (.ref ar)])
    refine Ends.len X1 hx hZ e1 A_ar_1 (z := (Int32.ofNat n)) (own_len A_ar_1) (hb hby d5_23) ?_
    show Ends p e below _ T1 (mkF m 24 #[.val (.ref ar), .val (.int nl), .val (.ref b1)] [(.int (Int32.ofNat n)), (.int (0 : Int32)), (.ref b1), (.int (0 : Int32)), (.ref ar)])
    refine Ends.by (fun _ => XS.iloadN X1.here hx rfl (hb hby d5_24) rfl) ?_
    show Ends p e below _ T1 (mkF m 25 #[.val (.ref ar), .val (.int nl), .val (.ref b1)] [(.int nl), (.int (Int32.ofNat n)), (.int (0 : Int32)), (.ref b1), (.int (0 : Int32)), (.ref ar)])
    refine Ends.callS (argsL := [(.int (Int32.ofNat n)), (.int nl)]) (rest := [(.int (0 : Int32)), (.ref b1), (.int (0 : Int32)), (.ref ar)]) X1 hx hZ hown (hw _ (List.mem_of_getElem? (i := 30) rfl)) (hw _ (List.mem_of_getElem? (i := 31) rfl)) (hw _ (List.mem_of_getElem? (i := 11) rfl)) (hw _ (List.mem_of_getElem? (i := 32) rfl)) (by decide) (con_6 l Z a0 hw (Int32.ofNat n) nl h1) e1 (by rw [hml]; rfl) (hb hby d5_25) (lenOf pd_6 rfl) 4 (Nat.le_of_eq rfl) (by decide) (by decide) (by decide) (by decide) ?_
    intro v T2 L2 X2 hQ
    obtain ⟨rfl, e2, rfl⟩ := hQ
    rw [List.append_nil] at X2
    show Ends p e below _ T2 (mkF m 28 #[.val (.ref ar), .val (.int nl), .val (.ref b1)] [(.int (f_6 (Int32.ofNat n) nl)), (.int (0 : Int32)), (.ref b1), (.int (0 : Int32)), (.ref ar)])
    refine Ends.copy (rest := []) X2 hx hZ hown (hw _ (List.mem_of_getElem? (i := 33) rfl)) (hw _ (List.mem_of_getElem? (i := 36) rfl)) (hw _ (List.mem_of_getElem? (i := 34) rfl)) (hw _ (List.mem_of_getElem? (i := 35) rfl)) e2 A_ar_1 A_b1 (by decide) (cnt := n) (own_min (own_len A0) hnl (Nat.le_of_lt hlt)) (Nat.le_refl _) (Nat.le_of_lt hlt) N0 g_b1 (by rw [hml]; rfl) (hb hby d5_28) (by decide) 0 (by decide) (by decide) ?_
    intro T3 h3 L3 X3 e3 N3 K3q B3
    have A_ar_3 : Af Z h3 ar .int n (fun q => .int (g q)) := A_ar_1.keep K3q (ninS ne_ar_b1 nin0)
    have E_b1_3 : Exa Z h3 b1 "[I" := Q1.keep K3q
    have Z3 : n0 ≤ h3.size := Nat.le_trans Z1 K3q.1
    have K3 : Keep h0 h3 [] := K1.trans K3q (allS (P := fun q => q ∈ [] ∨ h0.size ≤ q) (Or.inr gz_b1) all0)
    have C3 : Af Z h3 b1 .int n' (fun q => .int ((own_cpI n g) q)) := B3.congr (fun q _ => by unfold own_cpI; split <;> rfl)
    show Ends p e below _ T3 (mkF m 31 #[.val (.ref ar), .val (.int nl), .val (.ref b1)] [])
    refine Ends.by (fun _ => XS.aloadN X3.here hx rfl (hb hby d5_31) rfl rfl) ?_
    show Ends p e below _ T3 (mkF m 32 #[.val (.ref ar), .val (.int nl), .val (.ref b1)] [(.ref b1)])
    exact Ends.retA X3 hx hlk hret rfl rfl (hb hby d5_32) (by decide) (by decide) (by rw [e3]; exact ⟨b1, rfl, N3, K3, C3, g_b1, gz_b1⟩)
  · have c3 : nl = (Int32.ofNat n) := own_ne.2 q
    exact absurd (by rw [c3]; exact own_len A0) (by omega : ¬ nl.toInt = (n : Int))
theorem d7_0 : decode jdk_65_method_124_code 0 = .ok (.iload_n 1, 1) := by decide +kernel
theorem d7_1 : decode jdk_65_method_124_code 1 = .ok (.aload_n 0, 1) := by decide +kernel
theorem d7_2 : decode jdk_65_method_124_code 2 = .ok (.arraylength, 1) := by decide +kernel
theorem d7_3 : decode jdk_65_method_124_code 3 = .ok (.if_icmp .ne 11, 3) := by decide +kernel
theorem d7_6 : decode jdk_65_method_124_code 6 = .ok (.aload_n 0, 1) := by decide +kernel
theorem d7_7 : decode jdk_65_method_124_code 7 = .ok (.invokevirtual 319, 3) := by decide +kernel
theorem d7_10 : decode jdk_65_method_124_code 10 = .ok (.checkcast 320, 3) := by decide +kernel
theorem d7_13 : decode jdk_65_method_124_code 13 = .ok (.areturn, 1) := by decide +kernel
theorem d7_14 : decode jdk_65_method_124_code 14 = .ok (.iload_n 1, 1) := by decide +kernel
theorem d7_15 : decode jdk_65_method_124_code 15 = .ok (.newarray .long, 2) := by decide +kernel
theorem d7_17 : decode jdk_65_method_124_code 17 = .ok (.astore_n 2, 1) := by decide +kernel
theorem d7_18 : decode jdk_65_method_124_code 18 = .ok (.aload_n 0, 1) := by decide +kernel
theorem d7_19 : decode jdk_65_method_124_code 19 = .ok (.iconst 0, 1) := by decide +kernel
theorem d7_20 : decode jdk_65_method_124_code 20 = .ok (.aload_n 2, 1) := by decide +kernel
theorem d7_21 : decode jdk_65_method_124_code 21 = .ok (.iconst 0, 1) := by decide +kernel
theorem d7_22 : decode jdk_65_method_124_code 22 = .ok (.aload_n 0, 1) := by decide +kernel
theorem d7_23 : decode jdk_65_method_124_code 23 = .ok (.arraylength, 1) := by decide +kernel
theorem d7_24 : decode jdk_65_method_124_code 24 = .ok (.iload_n 1, 1) := by decide +kernel
theorem d7_25 : decode jdk_65_method_124_code 25 = .ok (.invokestatic 304, 3) := by decide +kernel
theorem d7_28 : decode jdk_65_method_124_code 28 = .ok (.invokestatic 150, 3) := by decide +kernel
theorem d7_31 : decode jdk_65_method_124_code 31 = .ok (.aload_n 2, 1) := by decide +kernel
theorem d7_32 : decode jdk_65_method_124_code 32 = .ok (.areturn, 1) := by decide +kernel
theorem pd_7 : parseMethodDescriptor "([JI)[J" = some ⟨[(.array .long), .int], some (.array .long)⟩ := by decide +kernel
theorem pf_7 : plainFor (⟨"java/util/Arrays", "copyOf", "([JI)[J"⟩ : MethodName) = true := plainFor_of_name (by first | (simp [plainName, overriddenIn, x]; done) | decide +kernel)
theorem ef_7 (m : MethodId) (ar : Addr) (nl : Int32) : entryFrame m #[(.ref ar), (.int nl)] 3 = mkF m 0 #[.val (.ref ar), .val (.int nl), .unset] [] := by first | (simp [entryFrame, mkF, argsToLocals, Value.category]; done) | rfl
set_option maxRecDepth 65536 in
set_option maxHeartbeats 40000000 in
theorem con_7 (l : Launch) (Z : State) (a0 : Array Value) (hw : ∀ d ∈ tables_1, d.before a0 Z = true) (ar : Addr) (nl : Int32) (n n' : Nat) (g : Nat → Int64) (h0 : Heap) (n0 : Nat) (Z0 : n0 ≤ h0.size) (A0 : Af Z h0 ar .long n (fun q => .long (g q))) (hnl : nl.toInt = (n' : Int)) (hlt : n < n') (h8 : n' ≤ 8) : Con l Z (⟨"java/util/Arrays", "copyOf", "([JI)[J"⟩ : MethodName) jdk_65_method_124_code 3 (some (.array .long)) ({ frames := 1, cells := 1, slots := 8, locals := 40 } : Room) #[(.ref ar), (.int nl)] h0 (fun v h L => ∃ b : Addr, v = some (.ref b) ∧ Fr n0 L ∧ Keep h0 h [] ∧ Af Z h b .long n' (fun q => .long ((own_cpJ n g) q)) ∧ n0 ≤ b ∧ h0.size ≤ b) := by
  refine Con.intro pf_7 ?_
  intro p e s m below meth c s₁ hx hby hml hown hnm hret hlk hZ X0 e0
  refine Ends.cast (ef_7 m ar nl) ?_
  have N0 := Fr.nil n0
  have K0 : Keep h0 h0 [] := Keep.refl _ _
  refine Ends.by (fun _ => XS.iloadN X0.here hx rfl (hb hby d7_0) rfl) ?_
  show Ends p e below _ s₁ (mkF m 1 #[.val (.ref ar), .val (.int nl), .unset] [(.int nl)])
  refine Ends.by (fun _ => XS.aloadN X0.here hx rfl (hb hby d7_1) rfl rfl) ?_
  show Ends p e below _ s₁ (mkF m 2 #[.val (.ref ar), .val (.int nl), .unset] [(.ref ar), (.int nl)])
  refine Ends.len X0 hx hZ e0 A0 (z := (Int32.ofNat n)) (own_len A0) (hb hby d7_2) ?_
  show Ends p e below _ s₁ (mkF m 3 #[.val (.ref ar), .val (.int nl), .unset] [(.int (Int32.ofNat n)), (.int nl)])
  refine Ends.icmp X0 hx (hb hby d7_3) 14 (by decide) (by decide) (fun q => ?_) (fun q => ?_)
  · have c3 : ¬ (nl = (Int32.ofNat n)) := own_ne.1 q
    show Ends p e below _ s₁ (mkF m 14 #[.val (.ref ar), .val (.int nl), .unset] [])
    refine Ends.by (fun _ => XS.iloadN X0.here hx rfl (hb hby d7_14) rfl) ?_
    show Ends p e below _ s₁ (mkF m 15 #[.val (.ref ar), .val (.int nl), .unset] [(.int nl)])
    refine Ends.newA X0 hx hZ (hw _ (List.mem_of_getElem? (i := 16) rfl)) e0 hnl 8 h8 (by decide) (by decide) (by decide) rfl (ad := "[J") (by decide) (hb hby d7_15) ?_
    intro T1 h1 b1 g1 X1 e1 E1 A1 Q1
    have A_ar_1 : Af Z h1 ar .long n (fun q => .long (g q)) := A0.ext E1
    have Z1 : n0 ≤ h1.size := Nat.le_trans Z0 E1.1
    have K1 : Keep h0 h1 [] := K0.ext E1
    have g_b1 : n0 ≤ b1 := Nat.le_trans Z0 (Nat.le_of_eq g1.symm)
    have gz_b1 : h0.size ≤ b1 := Nat.le_trans K0.1 (Nat.le_of_eq g1.symm)
    have ne_ar_b1 : ar ≠ b1 := Nat.ne_of_lt (Nat.lt_of_lt_of_le A0.lt (Nat.le_of_eq g1.symm))
    have A_b1 : Af Z h1 b1 .long n' (fun q => .long ((fun _ => (0 : Int64)) q)) := A1
    show Ends p e below _ T1 (mkF m 17 #[.val (.ref ar), .val (.int nl), .unset] [(.ref b1)])
    refine Ends.by (fun _ => XS.astoreN X1.here hx rfl (hb hby d7_17) rfl rfl (l' := #[.val (.ref ar), .val (.int nl), .val (.ref b1)]) rfl) ?_
    show Ends p e below _ T1 (mkF m 18 #[.val (.ref ar), .val (.int nl), .val (.ref b1)] [])
    refine Ends.by (fun _ => XS.aloadN X1.here hx rfl (hb hby d7_18) rfl rfl) ?_
    show Ends p e below _ T1 (mkF m 19 #[.val (.ref ar), .val (.int nl), .val (.ref b1)] [(.ref ar)])
    refine Ends.by (fun _ => XS.iconst X1.here hx rfl (hb hby d7_19)) ?_
    show Ends p e below _ T1 (mkF m 20 #[.val (.ref ar), .val (.int nl), .val (.ref b1)] [(.int (0 : Int32)), (.ref ar)])
    refine Ends.by (fun _ => XS.aloadN X1.here hx rfl (hb hby d7_20) rfl rfl) ?_
    show Ends p e below _ T1 (mkF m 21 #[.val (.ref ar), .val (.int nl), .val (.ref b1)] [(.ref b1), (.int (0 : Int32)), (.ref ar)])
    refine Ends.by (fun _ => XS.iconst X1.here hx rfl (hb hby d7_21)) ?_
    show Ends p e below _ T1 (mkF m 22 #[.val (.ref ar), .val (.int nl), .val (.ref b1)] [(.int (0 : Int32)), (.ref b1), (.int (0 : Int32)), (.ref ar)])
    refine Ends.by (fun _ => XS.aloadN X1.here hx rfl (hb hby d7_22) rfl rfl) ?_
    show Ends p e below _ T1 (mkF m 23 #[.val (.ref ar), .val (.int nl), .val (.ref b1)] [(.ref ar), (.int (0 : Int32)), (.ref b1), (.int (0 : Int32)), (.ref ar)])
    refine Ends.len X1 hx hZ e1 A_ar_1 (z := (Int32.ofNat n)) (own_len A_ar_1) (hb hby d7_23) ?_
    show Ends p e below _ T1 (mkF m 24 #[.val (.ref ar), .val (.int nl), .val (.ref b1)] [(.int (Int32.ofNat n)), (.int (0 : Int32)), (.ref b1), (.int (0 : Int32)), (.ref ar)])
    refine Ends.by (fun _ => XS.iloadN X1.here hx rfl (hb hby d7_24) rfl) ?_
    show Ends p e below _ T1 (mkF m 25 #[.val (.ref ar), .val (.int nl), .val (.ref b1)] [(.int nl), (.int (Int32.ofNat n)), (.int (0 : Int32)), (.ref b1), (.int (0 : Int32)), (.ref ar)])
    refine Ends.callS (argsL := [(.int (Int32.ofNat n)), (.int nl)]) (rest := [(.int (0 : Int32)), (.ref b1), (.int (0 : Int32)), (.ref ar)]) X1 hx hZ hown (hw _ (List.mem_of_getElem? (i := 30) rfl)) (hw _ (List.mem_of_getElem? (i := 31) rfl)) (hw _ (List.mem_of_getElem? (i := 11) rfl)) (hw _ (List.mem_of_getElem? (i := 32) rfl)) (by decide) (con_6 l Z a0 hw (Int32.ofNat n) nl h1) e1 (by rw [hml]; rfl) (hb hby d7_25) (lenOf pd_6 rfl) 4 (Nat.le_of_eq rfl) (by decide) (by decide) (by decide) (by decide) ?_
    intro v T2 L2 X2 hQ
    obtain ⟨rfl, e2, rfl⟩ := hQ
    rw [List.append_nil] at X2
    show Ends p e below _ T2 (mkF m 28 #[.val (.ref ar), .val (.int nl), .val (.ref b1)] [(.int (f_6 (Int32.ofNat n) nl)), (.int (0 : Int32)), (.ref b1), (.int (0 : Int32)), (.ref ar)])
    refine Ends.copy (rest := []) X2 hx hZ hown (hw _ (List.mem_of_getElem? (i := 33) rfl)) (hw _ (List.mem_of_getElem? (i := 36) rfl)) (hw _ (List.mem_of_getElem? (i := 34) rfl)) (hw _ (List.mem_of_getElem? (i := 35) rfl)) e2 A_ar_1 A_b1 (by decide) (cnt := n) (own_min (own_len A0) hnl (Nat.le_of_lt hlt)) (Nat.le_refl _) (Nat.le_of_lt hlt) N0 g_b1 (by rw [hml]; rfl) (hb hby d7_28) (by decide) 0 (by decide) (by decide) ?_
    intro T3 h3 L3 X3 e3 N3 K3q B3
    have A_ar_3 : Af Z h3 ar .long n (fun q => .long (g q)) := A_ar_1.keep K3q (ninS ne_ar_b1 nin0)
    have E_b1_3 : Exa Z h3 b1 "[J" := Q1.keep K3q
    have Z3 : n0 ≤ h3.size := Nat.le_trans Z1 K3q.1
    have K3 : Keep h0 h3 [] := K1.trans K3q (allS (P := fun q => q ∈ [] ∨ h0.size ≤ q) (Or.inr gz_b1) all0)
    have C3 : Af Z h3 b1 .long n' (fun q => .long ((own_cpJ n g) q)) := B3.congr (fun q _ => by unfold own_cpJ; split <;> rfl)
    show Ends p e below _ T3 (mkF m 31 #[.val (.ref ar), .val (.int nl), .val (.ref b1)] [])
    refine Ends.by (fun _ => XS.aloadN X3.here hx rfl (hb hby d7_31) rfl rfl) ?_
    show Ends p e below _ T3 (mkF m 32 #[.val (.ref ar), .val (.int nl), .val (.ref b1)] [(.ref b1)])
    exact Ends.retA X3 hx hlk hret rfl rfl (hb hby d7_32) (by decide) (by decide) (by rw [e3]; exact ⟨b1, rfl, N3, K3, C3, g_b1, gz_b1⟩)
  · have c3 : nl = (Int32.ofNat n) := own_ne.2 q
    exact absurd (by rw [c3]; exact own_len A0) (by omega : ¬ nl.toInt = (n : Int))
theorem own_sz {Z : State} {h : Heap} {a : Addr} {ty : FieldType} {n N : Nat} {f : Nat → Value} {z : Int32} (hz : z.toInt = (N : Int)) (c9 : z = Int32.ofNat n) (A : Af Z h a ty n f) : N = n := by
  have := own_len A; rw [← c9] at this; omega
theorem own_dblz {Z : State} {h : Heap} {a : Addr} {ty : FieldType} {n N : Nat} {f : Nat → Value} {z : Int32} (hz : z.toInt = (N : Int)) (c9 : z = Int32.ofNat n) (A : Af Z h a ty n f) (hN : N ≤ 4 := by assumption) : ((2 : Int32) * z).toInt = ((2 * n : Nat) : Int) := by
  have := own_sz hz c9 A; subst this; exact own_dbl hz (by omega)
theorem own_n4 {Z : State} {h : Heap} {a : Addr} {ty : FieldType} {n N : Nat} {f : Nat → Value} {z : Int32} (hz : z.toInt = (N : Int)) (c9 : z = Int32.ofNat n) (A : Af Z h a ty n f) (hN : N ≤ 4) : 2 * n ≤ 8 := by
  have := own_sz hz c9 A; omega
theorem own_room {Z : State} {h : Heap} {a : Addr} {ty : FieldType} {n N : Nat} {f : Nat → Value} {z : Int32} (hz : z.toInt = (N : Int)) (c9 : ¬ z = Int32.ofNat n) (A : Af Z h a ty n f) (hN : N ≤ n) : N + 1 ≤ n := by
  have := own_len A
  have q : N ≠ n := fun w => c9 (Int32.toInt_inj.mp (by rw [this, hz, w]))
  omega
theorem d4_0 : decode prog_19_method_4_code 0 = .ok (.aload_n 0, 1) := by decide +kernel
theorem d4_1 : decode prog_19_method_4_code 1 = .ok (.getfield 23, 3) := by decide +kernel
theorem d4_4 : decode prog_19_method_4_code 4 = .ok (.aload_n 0, 1) := by decide +kernel
theorem d4_5 : decode prog_19_method_4_code 5 = .ok (.getfield 13, 3) := by decide +kernel
theorem d4_8 : decode prog_19_method_4_code 8 = .ok (.arraylength, 1) := by decide +kernel
theorem d4_9 : decode prog_19_method_4_code 9 = .ok (.if_icmp .ne 37, 3) := by decide +kernel
theorem d4_12 : decode prog_19_method_4_code 12 = .ok (.aload_n 0, 1) := by decide +kernel
theorem d4_13 : decode prog_19_method_4_code 13 = .ok (.aload_n 0, 1) := by decide +kernel
theorem d4_14 : decode prog_19_method_4_code 14 = .ok (.getfield 13, 3) := by decide +kernel
theorem d4_17 : decode prog_19_method_4_code 17 = .ok (.iconst 2, 1) := by decide +kernel
theorem d4_18 : decode prog_19_method_4_code 18 = .ok (.aload_n 0, 1) := by decide +kernel
theorem d4_19 : decode prog_19_method_4_code 19 = .ok (.getfield 23, 3) := by decide +kernel
theorem d4_22 : decode prog_19_method_4_code 22 = .ok (.imul, 1) := by decide +kernel
theorem d4_23 : decode prog_19_method_4_code 23 = .ok (.invokestatic 27, 3) := by decide +kernel
theorem d4_26 : decode prog_19_method_4_code 26 = .ok (.putfield 13, 3) := by decide +kernel
theorem d4_29 : decode prog_19_method_4_code 29 = .ok (.aload_n 0, 1) := by decide +kernel
theorem d4_30 : decode prog_19_method_4_code 30 = .ok (.aload_n 0, 1) := by decide +kernel
theorem d4_31 : decode prog_19_method_4_code 31 = .ok (.getfield 19, 3) := by decide +kernel
theorem d4_34 : decode prog_19_method_4_code 34 = .ok (.iconst 2, 1) := by decide +kernel
theorem d4_35 : decode prog_19_method_4_code 35 = .ok (.aload_n 0, 1) := by decide +kernel
theorem d4_36 : decode prog_19_method_4_code 36 = .ok (.getfield 23, 3) := by decide +kernel
theorem d4_39 : decode prog_19_method_4_code 39 = .ok (.imul, 1) := by decide +kernel
theorem d4_40 : decode prog_19_method_4_code 40 = .ok (.invokestatic 33, 3) := by decide +kernel
theorem d4_43 : decode prog_19_method_4_code 43 = .ok (.putfield 19, 3) := by decide +kernel
theorem d4_46 : decode prog_19_method_4_code 46 = .ok (.aload_n 0, 1) := by decide +kernel
theorem d4_47 : decode prog_19_method_4_code 47 = .ok (.dup, 1) := by decide +kernel
theorem d4_48 : decode prog_19_method_4_code 48 = .ok (.getfield 23, 3) := by decide +kernel
theorem d4_51 : decode prog_19_method_4_code 51 = .ok (.dup_x1, 1) := by decide +kernel
theorem d4_52 : decode prog_19_method_4_code 52 = .ok (.iconst 1, 1) := by decide +kernel
theorem d4_53 : decode prog_19_method_4_code 53 = .ok (.iadd, 1) := by decide +kernel
theorem d4_54 : decode prog_19_method_4_code 54 = .ok (.putfield 23, 3) := by decide +kernel
theorem d4_57 : decode prog_19_method_4_code 57 = .ok (.istore 4, 2) := by decide +kernel
theorem d4_59 : decode prog_19_method_4_code 59 = .ok (.iload 4, 2) := by decide +kernel
theorem d4_61 : decode prog_19_method_4_code 61 = .ok (.ifCond .le 66, 3) := by decide +kernel
theorem d4_64 : decode prog_19_method_4_code 64 = .ok (.lload_n 2, 1) := by decide +kernel
theorem d4_65 : decode prog_19_method_4_code 65 = .ok (.aload_n 0, 1) := by decide +kernel
theorem d4_66 : decode prog_19_method_4_code 66 = .ok (.getfield 19, 3) := by decide +kernel
theorem d4_69 : decode prog_19_method_4_code 69 = .ok (.iload 4, 2) := by decide +kernel
theorem d4_71 : decode prog_19_method_4_code 71 = .ok (.iconst 1, 1) := by decide +kernel
theorem d4_72 : decode prog_19_method_4_code 72 = .ok (.isub, 1) := by decide +kernel
theorem d4_73 : decode prog_19_method_4_code 73 = .ok (.iconst 2, 1) := by decide +kernel
theorem d4_74 : decode prog_19_method_4_code 74 = .ok (.idiv, 1) := by decide +kernel
theorem d4_75 : decode prog_19_method_4_code 75 = .ok (.laload, 1) := by decide +kernel
theorem d4_76 : decode prog_19_method_4_code 76 = .ok (.lcmp, 1) := by decide +kernel
theorem d4_77 : decode prog_19_method_4_code 77 = .ok (.ifCond .ge 50, 3) := by decide +kernel
theorem d4_80 : decode prog_19_method_4_code 80 = .ok (.aload_n 0, 1) := by decide +kernel
theorem d4_81 : decode prog_19_method_4_code 81 = .ok (.getfield 13, 3) := by decide +kernel
theorem d4_84 : decode prog_19_method_4_code 84 = .ok (.iload 4, 2) := by decide +kernel
theorem d4_86 : decode prog_19_method_4_code 86 = .ok (.aload_n 0, 1) := by decide +kernel
theorem d4_87 : decode prog_19_method_4_code 87 = .ok (.getfield 13, 3) := by decide +kernel
theorem d4_90 : decode prog_19_method_4_code 90 = .ok (.iload 4, 2) := by decide +kernel
theorem d4_92 : decode prog_19_method_4_code 92 = .ok (.iconst 1, 1) := by decide +kernel
theorem d4_93 : decode prog_19_method_4_code 93 = .ok (.isub, 1) := by decide +kernel
theorem d4_94 : decode prog_19_method_4_code 94 = .ok (.iconst 2, 1) := by decide +kernel
theorem d4_95 : decode prog_19_method_4_code 95 = .ok (.idiv, 1) := by decide +kernel
theorem d4_96 : decode prog_19_method_4_code 96 = .ok (.iaload, 1) := by decide +kernel
theorem d4_97 : decode prog_19_method_4_code 97 = .ok (.iastore, 1) := by decide +kernel
theorem d4_98 : decode prog_19_method_4_code 98 = .ok (.aload_n 0, 1) := by decide +kernel
theorem d4_99 : decode prog_19_method_4_code 99 = .ok (.getfield 19, 3) := by decide +kernel
theorem d4_102 : decode prog_19_method_4_code 102 = .ok (.iload 4, 2) := by decide +kernel
theorem d4_104 : decode prog_19_method_4_code 104 = .ok (.aload_n 0, 1) := by decide +kernel
theorem d4_105 : decode prog_19_method_4_code 105 = .ok (.getfield 19, 3) := by decide +kernel
theorem d4_108 : decode prog_19_method_4_code 108 = .ok (.iload 4, 2) := by decide +kernel
theorem d4_110 : decode prog_19_method_4_code 110 = .ok (.iconst 1, 1) := by decide +kernel
theorem d4_111 : decode prog_19_method_4_code 111 = .ok (.isub, 1) := by decide +kernel
theorem d4_112 : decode prog_19_method_4_code 112 = .ok (.iconst 2, 1) := by decide +kernel
theorem d4_113 : decode prog_19_method_4_code 113 = .ok (.idiv, 1) := by decide +kernel
theorem d4_114 : decode prog_19_method_4_code 114 = .ok (.laload, 1) := by decide +kernel
theorem d4_115 : decode prog_19_method_4_code 115 = .ok (.lastore, 1) := by decide +kernel
theorem d4_116 : decode prog_19_method_4_code 116 = .ok (.iload 4, 2) := by decide +kernel
theorem d4_118 : decode prog_19_method_4_code 118 = .ok (.iconst 1, 1) := by decide +kernel
theorem d4_119 : decode prog_19_method_4_code 119 = .ok (.isub, 1) := by decide +kernel
theorem d4_120 : decode prog_19_method_4_code 120 = .ok (.iconst 2, 1) := by decide +kernel
theorem d4_121 : decode prog_19_method_4_code 121 = .ok (.idiv, 1) := by decide +kernel
theorem d4_122 : decode prog_19_method_4_code 122 = .ok (.istore 4, 2) := by decide +kernel
theorem d4_124 : decode prog_19_method_4_code 124 = .ok (.goto (-65), 3) := by decide +kernel
theorem d4_127 : decode prog_19_method_4_code 127 = .ok (.aload_n 0, 1) := by decide +kernel
theorem d4_128 : decode prog_19_method_4_code 128 = .ok (.getfield 13, 3) := by decide +kernel
theorem d4_131 : decode prog_19_method_4_code 131 = .ok (.iload 4, 2) := by decide +kernel
theorem d4_133 : decode prog_19_method_4_code 133 = .ok (.iload_n 1, 1) := by decide +kernel
theorem d4_134 : decode prog_19_method_4_code 134 = .ok (.iastore, 1) := by decide +kernel
theorem d4_135 : decode prog_19_method_4_code 135 = .ok (.aload_n 0, 1) := by decide +kernel
theorem d4_136 : decode prog_19_method_4_code 136 = .ok (.getfield 19, 3) := by decide +kernel
theorem d4_139 : decode prog_19_method_4_code 139 = .ok (.iload 4, 2) := by decide +kernel
theorem d4_141 : decode prog_19_method_4_code 141 = .ok (.lload_n 2, 1) := by decide +kernel
theorem d4_142 : decode prog_19_method_4_code 142 = .ok (.lastore, 1) := by decide +kernel
theorem d4_143 : decode prog_19_method_4_code 143 = .ok (.return_, 1) := by decide +kernel
theorem pd_4 : parseMethodDescriptor "(IJ)V" = some ⟨[.int, .long], none⟩ := by decide +kernel
theorem pf_4 : plainFor (⟨"com/example/tiefast/tiefast/IdHeap", "add", "(IJ)V"⟩ : MethodName) = true := plainFor_of_name (by first | (simp [plainName, overriddenIn, x]; done) | decide +kernel)
theorem ef_4 (m : MethodId) (a : Addr) (id : Int32) (r : Int64) : entryFrame m #[(.ref a), (.int id), (.long r)] 5 = mkF m 0 #[.val (.ref a), .val (.int id), .val (.long r), .second, .unset] [] := by first | (simp [entryFrame, mkF, argsToLocals, Value.category]; done) | rfl
set_option maxRecDepth 65536 in
set_option maxHeartbeats 40000000 in
theorem con_4 (l : Launch) (Z : State) (a0 : Array Value) (hw : ∀ d ∈ tables_1, d.before a0 Z = true) (a : Addr) (id : Int32) (r : Int64) (ida rka rr : Addr) (n sN B : Nat) (z : Int32) (fi : Nat → Int32) (fr r5 : Nat → Int64) (h0 : Heap) (n0 : Nat) (Z0 : n0 ≤ h0.size) (E0 : Exa Z h0 a "com/example/tiefast/tiefast/IdHeap") (Fi0 : Fld Z h0 a "com/example/tiefast/tiefast/IdHeap" "ids" "[I" (.ref ida)) (Fr0 : Fld Z h0 a "com/example/tiefast/tiefast/IdHeap" "ranks" "[J" (.ref rka)) (Fs0 : Fld Z h0 a "com/example/tiefast/tiefast/IdHeap" "size" "I" (.int z)) (Ai0 : Af Z h0 ida .int n (fun q => .int (fi q))) (Ar0 : Af Z h0 rka .long n (fun q => .long (fr q))) (Ac0 : Af Z h0 rr .long 5 (fun q => .long (r5 q))) (ne0 : rka ≠ rr) (ga : n0 ≤ a) (gi : n0 ≤ ida) (gr : n0 ≤ rka) (hz : z.toInt = (sN : Int)) (h1n : 1 ≤ n) (hsn : sN ≤ n) (hn8 : n ≤ 8) (hs4 : sN ≤ 4) (hp : HP r5 B sN fi fr) (hid : id.toInt = (B : Int)) (hr : r = r5 B) : Con l Z (⟨"com/example/tiefast/tiefast/IdHeap", "add", "(IJ)V"⟩ : MethodName) prog_19_method_4_code 5 none ({ frames := 2, cells := 2, slots := 16, locals := 55 } : Room) #[(.ref a), (.int id), (.long r)] h0 (fun v h L => ∃ (ia ra : Addr) (n' : Nat) (z' : Int32) (fi' : Nat → Int32) (fr' : Nat → Int64), v = none ∧ Fr n0 L ∧ n0 ≤ h.size ∧ Exa Z h a "com/example/tiefast/tiefast/IdHeap" ∧ Fld Z h a "com/example/tiefast/tiefast/IdHeap" "ids" "[I" (.ref ia) ∧ Fld Z h a "com/example/tiefast/tiefast/IdHeap" "ranks" "[J" (.ref ra) ∧ Fld Z h a "com/example/tiefast/tiefast/IdHeap" "size" "I" (.int z') ∧ Af Z h ia .int n' (fun q => .int (fi' q)) ∧ Af Z h ra .long n' (fun q => .long (fr' q)) ∧ Af Z h rr .long 5 (fun q => .long (r5 q)) ∧ ra ≠ rr ∧ n0 ≤ ia ∧ n0 ≤ ra ∧ z'.toInt = ((sN + 1 : Nat) : Int) ∧ sN + 1 ≤ n' ∧ n' ≤ 8 ∧ HP r5 (B + 1) (sN + 1) fi' fr') := by
  refine Con.intro pf_4 ?_
  intro p e s m below meth c s₁ hx hby hml hown hnm hret hlk hZ X0 e0
  refine Ends.cast (ef_4 m a id r) ?_
  have N0 := Fr.nil n0
  have A1 := Ai0
  have J46 : ∀ (T4 : State) (h4 : Heap) (L4 : List Loc) (ia ra : Addr) (n4 : Nat) (fi4 : Nat → Int32) (fr4 : Nat → Int64), Stand p l e ({ frames := 2, cells := 2, slots := 16, locals := 55 } : Room) s m #[(.ref a), (.int id), (.long r)] below meth c T4 L4 2 16 → T4.heap = h4 → Fr n0 L4 → n0 ≤ h4.size → Exa Z h4 a "com/example/tiefast/tiefast/IdHeap" → Fld Z h4 a "com/example/tiefast/tiefast/IdHeap" "ids" "[I" (.ref ia) → Fld Z h4 a "com/example/tiefast/tiefast/IdHeap" "ranks" "[J" (.ref ra) → Fld Z h4 a "com/example/tiefast/tiefast/IdHeap" "size" "I" (.int z) → Af Z h4 ia .int n4 (fun q => .int (fi4 q)) → Af Z h4 ra .long n4 (fun q => .long (fr4 q)) → Af Z h4 rr .long 5 (fun q => .long (r5 q)) → ra ≠ rr → n0 ≤ ia → n0 ≤ ra → sN + 1 ≤ n4 → n4 ≤ 8 → HP r5 B sN fi4 fr4 → Ends p e below (Fini s (fun v h L => ∃ (ia ra : Addr) (n' : Nat) (z' : Int32) (fi' : Nat → Int32) (fr' : Nat → Int64), v = none ∧ Fr n0 L ∧ n0 ≤ h.size ∧ Exa Z h a "com/example/tiefast/tiefast/IdHeap" ∧ Fld Z h a "com/example/tiefast/tiefast/IdHeap" "ids" "[I" (.ref ia) ∧ Fld Z h a "com/example/tiefast/tiefast/IdHeap" "ranks" "[J" (.ref ra) ∧ Fld Z h a "com/example/tiefast/tiefast/IdHeap" "size" "I" (.int z') ∧ Af Z h ia .int n' (fun q => .int (fi' q)) ∧ Af Z h ra .long n' (fun q => .long (fr' q)) ∧ Af Z h rr .long 5 (fun q => .long (r5 q)) ∧ ra ≠ rr ∧ n0 ≤ ia ∧ n0 ≤ ra ∧ z'.toInt = ((sN + 1 : Nat) : Int) ∧ sN + 1 ≤ n' ∧ n' ≤ 8 ∧ HP r5 (B + 1) (sN + 1) fi' fr') 2 16) T4 (mkF m 46 #[.val (.ref a), .val (.int id), .val (.long r), .second, .unset] []) := by
    intro T4 h4 L4 ia ra n4 fi4 fr4 X4 e4 N4 Z4 E4 Fi4 Fr4 Fs4 Ai4 Ar4 Ac4 ne4 gia gra hs hn8 hp4
    show Ends p e below _ T4 (mkF m 46 #[.val (.ref a), .val (.int id), .val (.long r), .second, .unset] [])
    refine Ends.by (fun _ => XS.aloadN X4.here hx rfl (hb hby d4_46) rfl rfl) ?_
    show Ends p e below _ T4 (mkF m 47 #[.val (.ref a), .val (.int id), .val (.long r), .second, .unset] [(.ref a)])
    refine Ends.by (fun _ => XS.dup X4.here hx rfl (hb hby d4_47) rfl rfl) ?_
    show Ends p e below _ T4 (mkF m 48 #[.val (.ref a), .val (.int id), .val (.long r), .second, .unset] [(.ref a), (.ref a)])
    obtain ⟨T1, X1, e1, st1⟩ := getF X4 hx hZ hown (host := "") (Or.inl (hw _ (List.mem_of_getElem? (i := 24) rfl))) Via.refl e4 Fs4 (g := (mkF m 48 #[.val (.ref a), .val (.int id), .val (.long r), .second, .unset] [(.ref a), (.ref a)])) rfl rfl (hb hby d4_48)
    refine Ends.by st1 ?_
    show Ends p e below _ T1 (mkF m 51 #[.val (.ref a), .val (.int id), .val (.long r), .second, .unset] [(.int z), (.ref a)])
    refine Ends.by (fun _ => XS.dupX1 X1.here hx rfl (hb hby d4_51) rfl rfl rfl) ?_
    show Ends p e below _ T1 (mkF m 52 #[.val (.ref a), .val (.int id), .val (.long r), .second, .unset] [(.int z), (.ref a), (.int z)])
    refine Ends.by (fun _ => XS.iconst X1.here hx rfl (hb hby d4_52)) ?_
    show Ends p e below _ T1 (mkF m 53 #[.val (.ref a), .val (.int id), .val (.long r), .second, .unset] [(.int (1 : Int32)), (.int z), (.ref a), (.int z)])
    refine Ends.by (fun _ => XS.iadd X1.here hx rfl (hb hby d4_53) rfl) ?_
    show Ends p e below _ T1 (mkF m 54 #[.val (.ref a), .val (.int id), .val (.long r), .second, .unset] [(.int (z + (1 : Int32))), (.ref a), (.int z)])
    obtain ⟨T2, h2, X2, e2, W2, st2⟩ := putF X1 hx hZ hown (host := "") (Or.inl (hw _ (List.mem_of_getElem? (i := 24) rfl))) Via.refl e1 Fs4 E4 (Or.inl (hw _ (List.mem_of_getElem? (i := 25) rfl))) (hw _ (List.mem_of_getElem? (i := 1) rfl)) (ty := .int) (by decide) rfl rfl (g := (mkF m 54 #[.val (.ref a), .val (.int id), .val (.long r), .second, .unset] [(.int (z + (1 : Int32))), (.ref a), (.int z)])) rfl rfl (hb hby d4_54)
    refine Ends.by st2 ?_
    have F_a_size_2 : Fld Z h2 a "com/example/tiefast/tiefast/IdHeap" "size" "I" (.int (z + (1 : Int32))) := Fs4.same W2
    have N2 := Fr.snoc X2 N4 ga
    have E_a_2 : Exa Z h2 a "com/example/tiefast/tiefast/IdHeap" := E4.wr W2
    have F_a_ids_2 : Fld Z h2 a "com/example/tiefast/tiefast/IdHeap" "ids" "[I" (.ref ia) := Fi4.other W2 (Or.inr (slot_ne (Or.inl (hw _ (List.mem_of_getElem? (i := 15) rfl))) (Or.inl (hw _ (List.mem_of_getElem? (i := 25) rfl))) (by decide) (t := (.array .int)) (t' := .int) (by decide) (by decide)))
    have F_a_ranks_2 : Fld Z h2 a "com/example/tiefast/tiefast/IdHeap" "ranks" "[J" (.ref ra) := Fr4.other W2 (Or.inr (slot_ne (Or.inl (hw _ (List.mem_of_getElem? (i := 18) rfl))) (Or.inl (hw _ (List.mem_of_getElem? (i := 25) rfl))) (by decide) (t := (.array .long)) (t' := .int) (by decide) (by decide)))
    have A_ia_2 : Af Z h2 ia .int n4 (fun q => .int (fi4 q)) := Ai4.other W2 (Ne.symm (own_apart E4 Ai4 (hw _ (List.mem_of_getElem? (i := 1) rfl))))
    have A_ra_2 : Af Z h2 ra .long n4 (fun q => .long (fr4 q)) := Ar4.other W2 (Ne.symm (own_apart E4 Ar4 (hw _ (List.mem_of_getElem? (i := 1) rfl))))
    have A_rr_2 : Af Z h2 rr .long 5 (fun q => .long (r5 q)) := Ac4.other W2 (Ne.symm (own_apart E4 Ac4 (hw _ (List.mem_of_getElem? (i := 1) rfl))))
    have Z2 : n0 ≤ h2.size := Nat.le_trans Z4 (Nat.le_of_eq W2.size.symm)
    show Ends p e below _ T2 (mkF m 57 #[.val (.ref a), .val (.int id), .val (.long r), .second, .unset] [(.int z)])
    refine Ends.by (fun _ => XS.istore X2.here hx rfl (hb hby d4_57) rfl (l' := #[.val (.ref a), .val (.int id), .val (.long r), .second, .val (.int z)]) rfl) ?_
    show Ends p e below _ T2 (mkF m 59 #[.val (.ref a), .val (.int id), .val (.long r), .second, .val (.int z)] [])
    have loop : ∀ (k : Nat) (i5 : Int32) (T5 : State) (h5 : Heap) (L5 : List Loc) (g5 : Nat → Int32) (q5 : Nat → Int64), i5.toInt = (k : Int) → Stand p l e ({ frames := 2, cells := 2, slots := 16, locals := 55 } : Room) s m #[(.ref a), (.int id), (.long r)] below meth c T5 L5 2 16 → T5.heap = h5 → Fr n0 L5 → n0 ≤ h5.size → Exa Z h5 a "com/example/tiefast/tiefast/IdHeap" → Fld Z h5 a "com/example/tiefast/tiefast/IdHeap" "ids" "[I" (.ref ia) → Fld Z h5 a "com/example/tiefast/tiefast/IdHeap" "ranks" "[J" (.ref ra) → Fld Z h5 a "com/example/tiefast/tiefast/IdHeap" "size" "I" (.int (z + (1 : Int32))) → Af Z h5 ia .int n4 (fun q => .int (g5 q)) → Af Z h5 ra .long n4 (fun q => .long (q5 q)) → Af Z h5 rr .long 5 (fun q => .long (r5 q)) → Up r5 B sN k g5 q5 r → Ends p e below (Fini s (fun v h L => ∃ (ia ra : Addr) (n' : Nat) (z' : Int32) (fi' : Nat → Int32) (fr' : Nat → Int64), v = none ∧ Fr n0 L ∧ n0 ≤ h.size ∧ Exa Z h a "com/example/tiefast/tiefast/IdHeap" ∧ Fld Z h a "com/example/tiefast/tiefast/IdHeap" "ids" "[I" (.ref ia) ∧ Fld Z h a "com/example/tiefast/tiefast/IdHeap" "ranks" "[J" (.ref ra) ∧ Fld Z h a "com/example/tiefast/tiefast/IdHeap" "size" "I" (.int z') ∧ Af Z h ia .int n' (fun q => .int (fi' q)) ∧ Af Z h ra .long n' (fun q => .long (fr' q)) ∧ Af Z h rr .long 5 (fun q => .long (r5 q)) ∧ ra ≠ rr ∧ n0 ≤ ia ∧ n0 ≤ ra ∧ z'.toInt = ((sN + 1 : Nat) : Int) ∧ sN + 1 ≤ n' ∧ n' ≤ 8 ∧ HP r5 (B + 1) (sN + 1) fi' fr') 2 16) T5 (mkF m 59 #[.val (.ref a), .val (.int id), .val (.long r), .second, .val (.int i5)] []) := by
      intro k
      induction k using Nat.strongRecOn with
      | _ k ih =>
        intro i5 T5 h5 L5 g5 q5 hi5 X5 e5 N5 Z5 E5 Fi5 Fr5 Fs5 Ai5 Ar5 Ac5 up5
        have hks := up5.1
        show Ends p e below _ T5 (mkF m 59 #[.val (.ref a), .val (.int id), .val (.long r), .second, .val (.int i5)] [])
        refine Ends.by (fun _ => XS.iload X5.here hx rfl (hb hby d4_59) rfl) ?_
        show Ends p e below _ T5 (mkF m 61 #[.val (.ref a), .val (.int id), .val (.long r), .second, .val (.int i5)] [(.int i5)])
        refine Ends.ifc X5 hx (hb hby d4_61) 127 (by decide) (by decide) (fun q => ?_) (fun q => ?_)
        · have c61 : ¬ ((0 : Int32) < i5) := own_le.1 q
          show Ends p e below _ T5 (mkF m 127 #[.val (.ref a), .val (.int id), .val (.long r), .second, .val (.int i5)] [])
          refine Ends.by (fun _ => XS.aloadN X5.here hx rfl (hb hby d4_127) rfl rfl) ?_
          show Ends p e below _ T5 (mkF m 128 #[.val (.ref a), .val (.int id), .val (.long r), .second, .val (.int i5)] [(.ref a)])
          obtain ⟨T3, X3, e3, st3⟩ := getF X5 hx hZ hown (host := "") (Or.inl (hw _ (List.mem_of_getElem? (i := 14) rfl))) Via.refl e5 Fi5 (g := (mkF m 128 #[.val (.ref a), .val (.int id), .val (.long r), .second, .val (.int i5)] [(.ref a)])) rfl rfl (hb hby d4_128)
          refine Ends.by st3 ?_
          show Ends p e below _ T3 (mkF m 131 #[.val (.ref a), .val (.int id), .val (.long r), .second, .val (.int i5)] [(.ref ia)])
          refine Ends.by (fun _ => XS.iload X3.here hx rfl (hb hby d4_131) rfl) ?_
          show Ends p e below _ T3 (mkF m 133 #[.val (.ref a), .val (.int id), .val (.long r), .second, .val (.int i5)] [(.int i5), (.ref ia)])
          refine Ends.by (fun _ => XS.iloadN X3.here hx rfl (hb hby d4_133) rfl) ?_
          show Ends p e below _ T3 (mkF m 134 #[.val (.ref a), .val (.int id), .val (.long r), .second, .val (.int i5)] [(.int id), (.int i5), (.ref ia)])
          refine Ends.stI X3 hx hZ e3 N5 gia Ai5 (k := k) hi5 (by omega) (hb hby d4_134) ?_
          intro T4 h4 L4 X4 e4 N4 W4 B4
          have C4 : Af Z h4 ia .int n4 (fun q => .int ((upd g5 k id) q)) := B4.congr (fun q _ => own_updI g5 k _ q)
          have E_a_4 : Exa Z h4 a "com/example/tiefast/tiefast/IdHeap" := E5.wr W4
          have F_a_ids_4 : Fld Z h4 a "com/example/tiefast/tiefast/IdHeap" "ids" "[I" (.ref ia) := Fi5.other W4 (Or.inl (own_apart E5 Ai5 (hw _ (List.mem_of_getElem? (i := 1) rfl))))
          have F_a_ranks_4 : Fld Z h4 a "com/example/tiefast/tiefast/IdHeap" "ranks" "[J" (.ref ra) := Fr5.other W4 (Or.inl (own_apart E5 Ai5 (hw _ (List.mem_of_getElem? (i := 1) rfl))))
          have F_a_size_4 : Fld Z h4 a "com/example/tiefast/tiefast/IdHeap" "size" "I" (.int (z + (1 : Int32))) := Fs5.other W4 (Or.inl (own_apart E5 Ai5 (hw _ (List.mem_of_getElem? (i := 1) rfl))))
          have A_ra_4 : Af Z h4 ra .long n4 (fun q => .long (q5 q)) := Ar5.other W4 (own_tyne Ar5 Ai5 (by decide))
          have A_rr_4 : Af Z h4 rr .long 5 (fun q => .long (r5 q)) := Ac5.other W4 (own_tyne Ac5 Ai5 (by decide))
          have Z4 : n0 ≤ h4.size := Nat.le_trans Z5 (Nat.le_of_eq W4.size.symm)
          show Ends p e below _ T4 (mkF m 135 #[.val (.ref a), .val (.int id), .val (.long r), .second, .val (.int i5)] [])
          refine Ends.by (fun _ => XS.aloadN X4.here hx rfl (hb hby d4_135) rfl rfl) ?_
          show Ends p e below _ T4 (mkF m 136 #[.val (.ref a), .val (.int id), .val (.long r), .second, .val (.int i5)] [(.ref a)])
          obtain ⟨T5, X5, e5, st5⟩ := getF X4 hx hZ hown (host := "") (Or.inl (hw _ (List.mem_of_getElem? (i := 17) rfl))) Via.refl e4 F_a_ranks_4 (g := (mkF m 136 #[.val (.ref a), .val (.int id), .val (.long r), .second, .val (.int i5)] [(.ref a)])) rfl rfl (hb hby d4_136)
          refine Ends.by st5 ?_
          show Ends p e below _ T5 (mkF m 139 #[.val (.ref a), .val (.int id), .val (.long r), .second, .val (.int i5)] [(.ref ra)])
          refine Ends.by (fun _ => XS.iload X5.here hx rfl (hb hby d4_139) rfl) ?_
          show Ends p e below _ T5 (mkF m 141 #[.val (.ref a), .val (.int id), .val (.long r), .second, .val (.int i5)] [(.int i5), (.ref ra)])
          refine Ends.by (fun _ => XS.lloadN X5.here hx rfl (hb hby d4_141) rfl) ?_
          show Ends p e below _ T5 (mkF m 142 #[.val (.ref a), .val (.int id), .val (.long r), .second, .val (.int i5)] [(.long r), (.int i5), (.ref ra)])
          refine Ends.stJ X5 hx hZ e5 N4 gra A_ra_4 (k := k) hi5 (by omega) (hb hby d4_142) ?_
          intro T6 h6 L6 X6 e6 N6 W6 B6
          have C6 : Af Z h6 ra .long n4 (fun q => .long ((upd q5 k r) q)) := B6.congr (fun q _ => own_updL q5 k _ q)
          have E_a_6 : Exa Z h6 a "com/example/tiefast/tiefast/IdHeap" := E_a_4.wr W6
          have F_a_ids_6 : Fld Z h6 a "com/example/tiefast/tiefast/IdHeap" "ids" "[I" (.ref ia) := F_a_ids_4.other W6 (Or.inl (own_apart E_a_4 A_ra_4 (hw _ (List.mem_of_getElem? (i := 1) rfl))))
          have F_a_ranks_6 : Fld Z h6 a "com/example/tiefast/tiefast/IdHeap" "ranks" "[J" (.ref ra) := F_a_ranks_4.other W6 (Or.inl (own_apart E_a_4 A_ra_4 (hw _ (List.mem_of_getElem? (i := 1) rfl))))
          have F_a_size_6 : Fld Z h6 a "com/example/tiefast/tiefast/IdHeap" "size" "I" (.int (z + (1 : Int32))) := F_a_size_4.other W6 (Or.inl (own_apart E_a_4 A_ra_4 (hw _ (List.mem_of_getElem? (i := 1) rfl))))
          have A_rr_6 : Af Z h6 rr .long 5 (fun q => .long (r5 q)) := A_rr_4.other W6 (Ne.symm ne4)
          have A_ia_6 : Af Z h6 ia .int n4 (fun q => .int ((upd g5 k id) q)) := C4.other W6 (own_tyne C4 A_ra_4 (by decide))
          have Z6 : n0 ≤ h6.size := Nat.le_trans Z4 (Nat.le_of_eq W6.size.symm)
          show Ends p e below _ T6 (mkF m 143 #[.val (.ref a), .val (.int id), .val (.long r), .second, .val (.int i5)] [])
          exact Ends.retV X6 hx hlk hret (hb hby d4_143) (by decide) (by decide) (by rw [e6]; exact ⟨ia, ra, n4, _, (upd g5 k id), (upd q5 k r), rfl, N6, Z6, E_a_6, F_a_ids_6, F_a_ranks_6, F_a_size_6, A_ia_6, C6, A_rr_6, ne4, gia, gra, own_inc hz (by omega), hs, hn8, up5.fin (Or.inl (own_zero hi5 c61)) hid hr⟩)
        · have c61 : (0 : Int32) < i5 := own_le.2 q
          show Ends p e below _ T5 (mkF m 64 #[.val (.ref a), .val (.int id), .val (.long r), .second, .val (.int i5)] [])
          refine Ends.by (fun _ => XS.lloadN X5.here hx rfl (hb hby d4_64) rfl) ?_
          show Ends p e below _ T5 (mkF m 65 #[.val (.ref a), .val (.int id), .val (.long r), .second, .val (.int i5)] [(.long r)])
          refine Ends.by (fun _ => XS.aloadN X5.here hx rfl (hb hby d4_65) rfl rfl) ?_
          show Ends p e below _ T5 (mkF m 66 #[.val (.ref a), .val (.int id), .val (.long r), .second, .val (.int i5)] [(.ref a), (.long r)])
          obtain ⟨T7, X7, e7, st7⟩ := getF X5 hx hZ hown (host := "") (Or.inl (hw _ (List.mem_of_getElem? (i := 17) rfl))) Via.refl e5 Fr5 (g := (mkF m 66 #[.val (.ref a), .val (.int id), .val (.long r), .second, .val (.int i5)] [(.ref a), (.long r)])) rfl rfl (hb hby d4_66)
          refine Ends.by st7 ?_
          show Ends p e below _ T7 (mkF m 69 #[.val (.ref a), .val (.int id), .val (.long r), .second, .val (.int i5)] [(.ref ra), (.long r)])
          refine Ends.by (fun _ => XS.iload X7.here hx rfl (hb hby d4_69) rfl) ?_
          show Ends p e below _ T7 (mkF m 71 #[.val (.ref a), .val (.int id), .val (.long r), .second, .val (.int i5)] [(.int i5), (.ref ra), (.long r)])
          refine Ends.by (fun _ => XS.iconst X7.here hx rfl (hb hby d4_71)) ?_
          show Ends p e below _ T7 (mkF m 72 #[.val (.ref a), .val (.int id), .val (.long r), .second, .val (.int i5)] [(.int (1 : Int32)), (.int i5), (.ref ra), (.long r)])
          refine Ends.by (fun _ => XS.isub X7.here hx rfl (hb hby d4_72) rfl) ?_
          show Ends p e below _ T7 (mkF m 73 #[.val (.ref a), .val (.int id), .val (.long r), .second, .val (.int i5)] [(.int (i5 - (1 : Int32))), (.ref ra), (.long r)])
          refine Ends.by (fun _ => XS.iconst X7.here hx rfl (hb hby d4_73)) ?_
          show Ends p e below _ T7 (mkF m 74 #[.val (.ref a), .val (.int id), .val (.long r), .second, .val (.int i5)] [(.int (2 : Int32)), (.int (i5 - (1 : Int32))), (.ref ra), (.long r)])
          refine Ends.by (fun _ => XS.idiv X7.here hx rfl (hb hby d4_74) rfl (by decide)) ?_
          show Ends p e below _ T7 (mkF m 75 #[.val (.ref a), .val (.int id), .val (.long r), .second, .val (.int i5)] [(.int ((i5 - (1 : Int32)) / (2 : Int32))), (.ref ra), (.long r)])
          refine Ends.ldJ X7 hx hZ e7 Ar5 (k := ((k - 1) / 2)) (own_par hi5 c61) (by have := own_pos hi5 c61; omega) (v := (.long (q5 ((k - 1) / 2)))) rfl (hb hby d4_75) ?_
          show Ends p e below _ T7 (mkF m 76 #[.val (.ref a), .val (.int id), .val (.long r), .second, .val (.int i5)] [(.long (q5 ((k - 1) / 2))), (.long r)])
          refine Ends.by (fun _ => XS.lcmp X7.here hx rfl (hb hby d4_76) rfl) ?_
          show Ends p e below _ T7 (mkF m 77 #[.val (.ref a), .val (.int id), .val (.long r), .second, .val (.int i5)] [(.int (lcmpW r (q5 ((k - 1) / 2))))])
          refine Ends.ifc X7 hx (hb hby d4_77) 127 (by decide) (by decide) (fun q => ?_) (fun q => ?_)
          · have c77 : ¬ ((lcmpW r (q5 ((k - 1) / 2))) < (0 : Int32)) := own_ge.1 q
            show Ends p e below _ T7 (mkF m 127 #[.val (.ref a), .val (.int id), .val (.long r), .second, .val (.int i5)] [])
            refine Ends.by (fun _ => XS.aloadN X7.here hx rfl (hb hby d4_127) rfl rfl) ?_
            show Ends p e below _ T7 (mkF m 128 #[.val (.ref a), .val (.int id), .val (.long r), .second, .val (.int i5)] [(.ref a)])
            obtain ⟨T8, X8, e8, st8⟩ := getF X7 hx hZ hown (host := "") (Or.inl (hw _ (List.mem_of_getElem? (i := 14) rfl))) Via.refl e7 Fi5 (g := (mkF m 128 #[.val (.ref a), .val (.int id), .val (.long r), .second, .val (.int i5)] [(.ref a)])) rfl rfl (hb hby d4_128)
            refine Ends.by st8 ?_
            show Ends p e below _ T8 (mkF m 131 #[.val (.ref a), .val (.int id), .val (.long r), .second, .val (.int i5)] [(.ref ia)])
            refine Ends.by (fun _ => XS.iload X8.here hx rfl (hb hby d4_131) rfl) ?_
            show Ends p e below _ T8 (mkF m 133 #[.val (.ref a), .val (.int id), .val (.long r), .second, .val (.int i5)] [(.int i5), (.ref ia)])
            refine Ends.by (fun _ => XS.iloadN X8.here hx rfl (hb hby d4_133) rfl) ?_
            show Ends p e below _ T8 (mkF m 134 #[.val (.ref a), .val (.int id), .val (.long r), .second, .val (.int i5)] [(.int id), (.int i5), (.ref ia)])
            refine Ends.stI X8 hx hZ e8 N5 gia Ai5 (k := k) hi5 (by omega) (hb hby d4_134) ?_
            intro T9 h9 L9 X9 e9 N9 W9 B9
            have C9 : Af Z h9 ia .int n4 (fun q => .int ((upd g5 k id) q)) := B9.congr (fun q _ => own_updI g5 k _ q)
            have E_a_9 : Exa Z h9 a "com/example/tiefast/tiefast/IdHeap" := E5.wr W9
            have F_a_ids_9 : Fld Z h9 a "com/example/tiefast/tiefast/IdHeap" "ids" "[I" (.ref ia) := Fi5.other W9 (Or.inl (own_apart E5 Ai5 (hw _ (List.mem_of_getElem? (i := 1) rfl))))
            have F_a_ranks_9 : Fld Z h9 a "com/example/tiefast/tiefast/IdHeap" "ranks" "[J" (.ref ra) := Fr5.other W9 (Or.inl (own_apart E5 Ai5 (hw _ (List.mem_of_getElem? (i := 1) rfl))))
            have F_a_size_9 : Fld Z h9 a "com/example/tiefast/tiefast/IdHeap" "size" "I" (.int (z + (1 : Int32))) := Fs5.other W9 (Or.inl (own_apart E5 Ai5 (hw _ (List.mem_of_getElem? (i := 1) rfl))))
            have A_ra_9 : Af Z h9 ra .long n4 (fun q => .long (q5 q)) := Ar5.other W9 (own_tyne Ar5 Ai5 (by decide))
            have A_rr_9 : Af Z h9 rr .long 5 (fun q => .long (r5 q)) := Ac5.other W9 (own_tyne Ac5 Ai5 (by decide))
            have Z9 : n0 ≤ h9.size := Nat.le_trans Z5 (Nat.le_of_eq W9.size.symm)
            show Ends p e below _ T9 (mkF m 135 #[.val (.ref a), .val (.int id), .val (.long r), .second, .val (.int i5)] [])
            refine Ends.by (fun _ => XS.aloadN X9.here hx rfl (hb hby d4_135) rfl rfl) ?_
            show Ends p e below _ T9 (mkF m 136 #[.val (.ref a), .val (.int id), .val (.long r), .second, .val (.int i5)] [(.ref a)])
            obtain ⟨T10, X10, e10, st10⟩ := getF X9 hx hZ hown (host := "") (Or.inl (hw _ (List.mem_of_getElem? (i := 17) rfl))) Via.refl e9 F_a_ranks_9 (g := (mkF m 136 #[.val (.ref a), .val (.int id), .val (.long r), .second, .val (.int i5)] [(.ref a)])) rfl rfl (hb hby d4_136)
            refine Ends.by st10 ?_
            show Ends p e below _ T10 (mkF m 139 #[.val (.ref a), .val (.int id), .val (.long r), .second, .val (.int i5)] [(.ref ra)])
            refine Ends.by (fun _ => XS.iload X10.here hx rfl (hb hby d4_139) rfl) ?_
            show Ends p e below _ T10 (mkF m 141 #[.val (.ref a), .val (.int id), .val (.long r), .second, .val (.int i5)] [(.int i5), (.ref ra)])
            refine Ends.by (fun _ => XS.lloadN X10.here hx rfl (hb hby d4_141) rfl) ?_
            show Ends p e below _ T10 (mkF m 142 #[.val (.ref a), .val (.int id), .val (.long r), .second, .val (.int i5)] [(.long r), (.int i5), (.ref ra)])
            refine Ends.stJ X10 hx hZ e10 N9 gra A_ra_9 (k := k) hi5 (by omega) (hb hby d4_142) ?_
            intro T11 h11 L11 X11 e11 N11 W11 B11
            have C11 : Af Z h11 ra .long n4 (fun q => .long ((upd q5 k r) q)) := B11.congr (fun q _ => own_updL q5 k _ q)
            have E_a_11 : Exa Z h11 a "com/example/tiefast/tiefast/IdHeap" := E_a_9.wr W11
            have F_a_ids_11 : Fld Z h11 a "com/example/tiefast/tiefast/IdHeap" "ids" "[I" (.ref ia) := F_a_ids_9.other W11 (Or.inl (own_apart E_a_9 A_ra_9 (hw _ (List.mem_of_getElem? (i := 1) rfl))))
            have F_a_ranks_11 : Fld Z h11 a "com/example/tiefast/tiefast/IdHeap" "ranks" "[J" (.ref ra) := F_a_ranks_9.other W11 (Or.inl (own_apart E_a_9 A_ra_9 (hw _ (List.mem_of_getElem? (i := 1) rfl))))
            have F_a_size_11 : Fld Z h11 a "com/example/tiefast/tiefast/IdHeap" "size" "I" (.int (z + (1 : Int32))) := F_a_size_9.other W11 (Or.inl (own_apart E_a_9 A_ra_9 (hw _ (List.mem_of_getElem? (i := 1) rfl))))
            have A_rr_11 : Af Z h11 rr .long 5 (fun q => .long (r5 q)) := A_rr_9.other W11 (Ne.symm ne4)
            have A_ia_11 : Af Z h11 ia .int n4 (fun q => .int ((upd g5 k id) q)) := C9.other W11 (own_tyne C9 A_ra_9 (by decide))
            have Z11 : n0 ≤ h11.size := Nat.le_trans Z9 (Nat.le_of_eq W11.size.symm)
            show Ends p e below _ T11 (mkF m 143 #[.val (.ref a), .val (.int id), .val (.long r), .second, .val (.int i5)] [])
            exact Ends.retV X11 hx hlk hret (hb hby d4_143) (by decide) (by decide) (by rw [e11]; exact ⟨ia, ra, n4, _, (upd g5 k id), (upd q5 k r), rfl, N11, Z11, E_a_11, F_a_ids_11, F_a_ranks_11, F_a_size_11, A_ia_11, C11, A_rr_11, ne4, gia, gra, own_inc hz (by omega), hs, hn8, up5.fin (Or.inr (Int.not_lt.mp (fun y => c77 (own_lw.mpr y)))) hid hr⟩)
          · have c77 : (lcmpW r (q5 ((k - 1) / 2))) < (0 : Int32) := own_ge.2 q
            show Ends p e below _ T7 (mkF m 80 #[.val (.ref a), .val (.int id), .val (.long r), .second, .val (.int i5)] [])
            refine Ends.by (fun _ => XS.aloadN X7.here hx rfl (hb hby d4_80) rfl rfl) ?_
            show Ends p e below _ T7 (mkF m 81 #[.val (.ref a), .val (.int id), .val (.long r), .second, .val (.int i5)] [(.ref a)])
            obtain ⟨T12, X12, e12, st12⟩ := getF X7 hx hZ hown (host := "") (Or.inl (hw _ (List.mem_of_getElem? (i := 14) rfl))) Via.refl e7 Fi5 (g := (mkF m 81 #[.val (.ref a), .val (.int id), .val (.long r), .second, .val (.int i5)] [(.ref a)])) rfl rfl (hb hby d4_81)
            refine Ends.by st12 ?_
            show Ends p e below _ T12 (mkF m 84 #[.val (.ref a), .val (.int id), .val (.long r), .second, .val (.int i5)] [(.ref ia)])
            refine Ends.by (fun _ => XS.iload X12.here hx rfl (hb hby d4_84) rfl) ?_
            show Ends p e below _ T12 (mkF m 86 #[.val (.ref a), .val (.int id), .val (.long r), .second, .val (.int i5)] [(.int i5), (.ref ia)])
            refine Ends.by (fun _ => XS.aloadN X12.here hx rfl (hb hby d4_86) rfl rfl) ?_
            show Ends p e below _ T12 (mkF m 87 #[.val (.ref a), .val (.int id), .val (.long r), .second, .val (.int i5)] [(.ref a), (.int i5), (.ref ia)])
            obtain ⟨T13, X13, e13, st13⟩ := getF X12 hx hZ hown (host := "") (Or.inl (hw _ (List.mem_of_getElem? (i := 14) rfl))) Via.refl e12 Fi5 (g := (mkF m 87 #[.val (.ref a), .val (.int id), .val (.long r), .second, .val (.int i5)] [(.ref a), (.int i5), (.ref ia)])) rfl rfl (hb hby d4_87)
            refine Ends.by st13 ?_
            show Ends p e below _ T13 (mkF m 90 #[.val (.ref a), .val (.int id), .val (.long r), .second, .val (.int i5)] [(.ref ia), (.int i5), (.ref ia)])
            refine Ends.by (fun _ => XS.iload X13.here hx rfl (hb hby d4_90) rfl) ?_
            show Ends p e below _ T13 (mkF m 92 #[.val (.ref a), .val (.int id), .val (.long r), .second, .val (.int i5)] [(.int i5), (.ref ia), (.int i5), (.ref ia)])
            refine Ends.by (fun _ => XS.iconst X13.here hx rfl (hb hby d4_92)) ?_
            show Ends p e below _ T13 (mkF m 93 #[.val (.ref a), .val (.int id), .val (.long r), .second, .val (.int i5)] [(.int (1 : Int32)), (.int i5), (.ref ia), (.int i5), (.ref ia)])
            refine Ends.by (fun _ => XS.isub X13.here hx rfl (hb hby d4_93) rfl) ?_
            show Ends p e below _ T13 (mkF m 94 #[.val (.ref a), .val (.int id), .val (.long r), .second, .val (.int i5)] [(.int (i5 - (1 : Int32))), (.ref ia), (.int i5), (.ref ia)])
            refine Ends.by (fun _ => XS.iconst X13.here hx rfl (hb hby d4_94)) ?_
            show Ends p e below _ T13 (mkF m 95 #[.val (.ref a), .val (.int id), .val (.long r), .second, .val (.int i5)] [(.int (2 : Int32)), (.int (i5 - (1 : Int32))), (.ref ia), (.int i5), (.ref ia)])
            refine Ends.by (fun _ => XS.idiv X13.here hx rfl (hb hby d4_95) rfl (by decide)) ?_
            show Ends p e below _ T13 (mkF m 96 #[.val (.ref a), .val (.int id), .val (.long r), .second, .val (.int i5)] [(.int ((i5 - (1 : Int32)) / (2 : Int32))), (.ref ia), (.int i5), (.ref ia)])
            refine Ends.ldI X13 hx hZ e13 Ai5 (k := ((k - 1) / 2)) (own_par hi5 c61) (by have := own_pos hi5 c61; omega) (v := (.int (g5 ((k - 1) / 2)))) rfl (hb hby d4_96) ?_
            show Ends p e below _ T13 (mkF m 97 #[.val (.ref a), .val (.int id), .val (.long r), .second, .val (.int i5)] [(.int (g5 ((k - 1) / 2))), (.int i5), (.ref ia)])
            refine Ends.stI X13 hx hZ e13 N5 gia Ai5 (k := k) hi5 (by omega) (hb hby d4_97) ?_
            intro T14 h14 L14 X14 e14 N14 W14 B14
            have C14 : Af Z h14 ia .int n4 (fun q => .int ((upd g5 k (g5 ((k - 1) / 2))) q)) := B14.congr (fun q _ => own_updI g5 k _ q)
            have E_a_14 : Exa Z h14 a "com/example/tiefast/tiefast/IdHeap" := E5.wr W14
            have F_a_ids_14 : Fld Z h14 a "com/example/tiefast/tiefast/IdHeap" "ids" "[I" (.ref ia) := Fi5.other W14 (Or.inl (own_apart E5 Ai5 (hw _ (List.mem_of_getElem? (i := 1) rfl))))
            have F_a_ranks_14 : Fld Z h14 a "com/example/tiefast/tiefast/IdHeap" "ranks" "[J" (.ref ra) := Fr5.other W14 (Or.inl (own_apart E5 Ai5 (hw _ (List.mem_of_getElem? (i := 1) rfl))))
            have F_a_size_14 : Fld Z h14 a "com/example/tiefast/tiefast/IdHeap" "size" "I" (.int (z + (1 : Int32))) := Fs5.other W14 (Or.inl (own_apart E5 Ai5 (hw _ (List.mem_of_getElem? (i := 1) rfl))))
            have A_ra_14 : Af Z h14 ra .long n4 (fun q => .long (q5 q)) := Ar5.other W14 (own_tyne Ar5 Ai5 (by decide))
            have A_rr_14 : Af Z h14 rr .long 5 (fun q => .long (r5 q)) := Ac5.other W14 (own_tyne Ac5 Ai5 (by decide))
            have Z14 : n0 ≤ h14.size := Nat.le_trans Z5 (Nat.le_of_eq W14.size.symm)
            show Ends p e below _ T14 (mkF m 98 #[.val (.ref a), .val (.int id), .val (.long r), .second, .val (.int i5)] [])
            refine Ends.by (fun _ => XS.aloadN X14.here hx rfl (hb hby d4_98) rfl rfl) ?_
            show Ends p e below _ T14 (mkF m 99 #[.val (.ref a), .val (.int id), .val (.long r), .second, .val (.int i5)] [(.ref a)])
            obtain ⟨T15, X15, e15, st15⟩ := getF X14 hx hZ hown (host := "") (Or.inl (hw _ (List.mem_of_getElem? (i := 17) rfl))) Via.refl e14 F_a_ranks_14 (g := (mkF m 99 #[.val (.ref a), .val (.int id), .val (.long r), .second, .val (.int i5)] [(.ref a)])) rfl rfl (hb hby d4_99)
            refine Ends.by st15 ?_
            show Ends p e below _ T15 (mkF m 102 #[.val (.ref a), .val (.int id), .val (.long r), .second, .val (.int i5)] [(.ref ra)])
            refine Ends.by (fun _ => XS.iload X15.here hx rfl (hb hby d4_102) rfl) ?_
            show Ends p e below _ T15 (mkF m 104 #[.val (.ref a), .val (.int id), .val (.long r), .second, .val (.int i5)] [(.int i5), (.ref ra)])
            refine Ends.by (fun _ => XS.aloadN X15.here hx rfl (hb hby d4_104) rfl rfl) ?_
            show Ends p e below _ T15 (mkF m 105 #[.val (.ref a), .val (.int id), .val (.long r), .second, .val (.int i5)] [(.ref a), (.int i5), (.ref ra)])
            obtain ⟨T16, X16, e16, st16⟩ := getF X15 hx hZ hown (host := "") (Or.inl (hw _ (List.mem_of_getElem? (i := 17) rfl))) Via.refl e15 F_a_ranks_14 (g := (mkF m 105 #[.val (.ref a), .val (.int id), .val (.long r), .second, .val (.int i5)] [(.ref a), (.int i5), (.ref ra)])) rfl rfl (hb hby d4_105)
            refine Ends.by st16 ?_
            show Ends p e below _ T16 (mkF m 108 #[.val (.ref a), .val (.int id), .val (.long r), .second, .val (.int i5)] [(.ref ra), (.int i5), (.ref ra)])
            refine Ends.by (fun _ => XS.iload X16.here hx rfl (hb hby d4_108) rfl) ?_
            show Ends p e below _ T16 (mkF m 110 #[.val (.ref a), .val (.int id), .val (.long r), .second, .val (.int i5)] [(.int i5), (.ref ra), (.int i5), (.ref ra)])
            refine Ends.by (fun _ => XS.iconst X16.here hx rfl (hb hby d4_110)) ?_
            show Ends p e below _ T16 (mkF m 111 #[.val (.ref a), .val (.int id), .val (.long r), .second, .val (.int i5)] [(.int (1 : Int32)), (.int i5), (.ref ra), (.int i5), (.ref ra)])
            refine Ends.by (fun _ => XS.isub X16.here hx rfl (hb hby d4_111) rfl) ?_
            show Ends p e below _ T16 (mkF m 112 #[.val (.ref a), .val (.int id), .val (.long r), .second, .val (.int i5)] [(.int (i5 - (1 : Int32))), (.ref ra), (.int i5), (.ref ra)])
            refine Ends.by (fun _ => XS.iconst X16.here hx rfl (hb hby d4_112)) ?_
            show Ends p e below _ T16 (mkF m 113 #[.val (.ref a), .val (.int id), .val (.long r), .second, .val (.int i5)] [(.int (2 : Int32)), (.int (i5 - (1 : Int32))), (.ref ra), (.int i5), (.ref ra)])
            refine Ends.by (fun _ => XS.idiv X16.here hx rfl (hb hby d4_113) rfl (by decide)) ?_
            show Ends p e below _ T16 (mkF m 114 #[.val (.ref a), .val (.int id), .val (.long r), .second, .val (.int i5)] [(.int ((i5 - (1 : Int32)) / (2 : Int32))), (.ref ra), (.int i5), (.ref ra)])
            refine Ends.ldJ X16 hx hZ e16 A_ra_14 (k := ((k - 1) / 2)) (own_par hi5 c61) (by have := own_pos hi5 c61; omega) (v := (.long (q5 ((k - 1) / 2)))) rfl (hb hby d4_114) ?_
            show Ends p e below _ T16 (mkF m 115 #[.val (.ref a), .val (.int id), .val (.long r), .second, .val (.int i5)] [(.long (q5 ((k - 1) / 2))), (.int i5), (.ref ra)])
            refine Ends.stJ X16 hx hZ e16 N14 gra A_ra_14 (k := k) hi5 (by omega) (hb hby d4_115) ?_
            intro T17 h17 L17 X17 e17 N17 W17 B17
            have C17 : Af Z h17 ra .long n4 (fun q => .long ((upd q5 k (q5 ((k - 1) / 2))) q)) := B17.congr (fun q _ => own_updL q5 k _ q)
            have E_a_17 : Exa Z h17 a "com/example/tiefast/tiefast/IdHeap" := E_a_14.wr W17
            have F_a_ids_17 : Fld Z h17 a "com/example/tiefast/tiefast/IdHeap" "ids" "[I" (.ref ia) := F_a_ids_14.other W17 (Or.inl (own_apart E_a_14 A_ra_14 (hw _ (List.mem_of_getElem? (i := 1) rfl))))
            have F_a_ranks_17 : Fld Z h17 a "com/example/tiefast/tiefast/IdHeap" "ranks" "[J" (.ref ra) := F_a_ranks_14.other W17 (Or.inl (own_apart E_a_14 A_ra_14 (hw _ (List.mem_of_getElem? (i := 1) rfl))))
            have F_a_size_17 : Fld Z h17 a "com/example/tiefast/tiefast/IdHeap" "size" "I" (.int (z + (1 : Int32))) := F_a_size_14.other W17 (Or.inl (own_apart E_a_14 A_ra_14 (hw _ (List.mem_of_getElem? (i := 1) rfl))))
            have A_rr_17 : Af Z h17 rr .long 5 (fun q => .long (r5 q)) := A_rr_14.other W17 (Ne.symm ne4)
            have A_ia_17 : Af Z h17 ia .int n4 (fun q => .int ((upd g5 k (g5 ((k - 1) / 2))) q)) := C14.other W17 (own_tyne C14 A_ra_14 (by decide))
            have Z17 : n0 ≤ h17.size := Nat.le_trans Z14 (Nat.le_of_eq W17.size.symm)
            show Ends p e below _ T17 (mkF m 116 #[.val (.ref a), .val (.int id), .val (.long r), .second, .val (.int i5)] [])
            refine Ends.by (fun _ => XS.iload X17.here hx rfl (hb hby d4_116) rfl) ?_
            show Ends p e below _ T17 (mkF m 118 #[.val (.ref a), .val (.int id), .val (.long r), .second, .val (.int i5)] [(.int i5)])
            refine Ends.by (fun _ => XS.iconst X17.here hx rfl (hb hby d4_118)) ?_
            show Ends p e below _ T17 (mkF m 119 #[.val (.ref a), .val (.int id), .val (.long r), .second, .val (.int i5)] [(.int (1 : Int32)), (.int i5)])
            refine Ends.by (fun _ => XS.isub X17.here hx rfl (hb hby d4_119) rfl) ?_
            show Ends p e below _ T17 (mkF m 120 #[.val (.ref a), .val (.int id), .val (.long r), .second, .val (.int i5)] [(.int (i5 - (1 : Int32)))])
            refine Ends.by (fun _ => XS.iconst X17.here hx rfl (hb hby d4_120)) ?_
            show Ends p e below _ T17 (mkF m 121 #[.val (.ref a), .val (.int id), .val (.long r), .second, .val (.int i5)] [(.int (2 : Int32)), (.int (i5 - (1 : Int32)))])
            refine Ends.by (fun _ => XS.idiv X17.here hx rfl (hb hby d4_121) rfl (by decide)) ?_
            show Ends p e below _ T17 (mkF m 122 #[.val (.ref a), .val (.int id), .val (.long r), .second, .val (.int i5)] [(.int ((i5 - (1 : Int32)) / (2 : Int32)))])
            refine Ends.by (fun _ => XS.istore X17.here hx rfl (hb hby d4_122) rfl (l' := #[.val (.ref a), .val (.int id), .val (.long r), .second, .val (.int ((i5 - (1 : Int32)) / (2 : Int32)))]) rfl) ?_
            show Ends p e below _ T17 (mkF m 124 #[.val (.ref a), .val (.int id), .val (.long r), .second, .val (.int ((i5 - (1 : Int32)) / (2 : Int32)))] [])
            refine Ends.by (fun _ => XS.goto X17.here hx rfl (pc0 := 124) (pc' := 59) rfl (hb hby d4_124) (by decide) (by decide)) ?_
            show Ends p e below _ T17 (mkF m 59 #[.val (.ref a), .val (.int id), .val (.long r), .second, .val (.int ((i5 - (1 : Int32)) / (2 : Int32)))] [])
            exact ih ((k - 1) / 2) (by have := own_pos hi5 c61; omega) _ _ _ _ _ _ (own_par hi5 c61) X17 e17 N17 Z17 E_a_17 F_a_ids_17 F_a_ranks_17 F_a_size_17 A_ia_17 C17 A_rr_17 (up5.move (own_pos hi5 c61) (own_lw.mp c77))
    exact loop sN z _ _ _ _ _ hz X2 e2 N2 Z2 E_a_2 F_a_ids_2 F_a_ranks_2 F_a_size_2 A_ia_2 A_ra_2 A_rr_2 (Up.start hp4 r)
  refine Ends.by (fun _ => XS.aloadN X0.here hx rfl (hb hby d4_0) rfl rfl) ?_
  show Ends p e below _ s₁ (mkF m 1 #[.val (.ref a), .val (.int id), .val (.long r), .second, .unset] [(.ref a)])
  obtain ⟨T18, X18, e18, st18⟩ := getF X0 hx hZ hown (host := "") (Or.inl (hw _ (List.mem_of_getElem? (i := 24) rfl))) Via.refl e0 Fs0 (g := (mkF m 1 #[.val (.ref a), .val (.int id), .val (.long r), .second, .unset] [(.ref a)])) rfl rfl (hb hby d4_1)
  refine Ends.by st18 ?_
  show Ends p e below _ T18 (mkF m 4 #[.val (.ref a), .val (.int id), .val (.long r), .second, .unset] [(.int z)])
  refine Ends.by (fun _ => XS.aloadN X18.here hx rfl (hb hby d4_4) rfl rfl) ?_
  show Ends p e below _ T18 (mkF m 5 #[.val (.ref a), .val (.int id), .val (.long r), .second, .unset] [(.ref a), (.int z)])
  obtain ⟨T19, X19, e19, st19⟩ := getF X18 hx hZ hown (host := "") (Or.inl (hw _ (List.mem_of_getElem? (i := 14) rfl))) Via.refl e18 Fi0 (g := (mkF m 5 #[.val (.ref a), .val (.int id), .val (.long r), .second, .unset] [(.ref a), (.int z)])) rfl rfl (hb hby d4_5)
  refine Ends.by st19 ?_
  show Ends p e below _ T19 (mkF m 8 #[.val (.ref a), .val (.int id), .val (.long r), .second, .unset] [(.ref ida), (.int z)])
  refine Ends.len X19 hx hZ e19 Ai0 (z := (Int32.ofNat n)) (own_len Ai0) (hb hby d4_8) ?_
  show Ends p e below _ T19 (mkF m 9 #[.val (.ref a), .val (.int id), .val (.long r), .second, .unset] [(.int (Int32.ofNat n)), (.int z)])
  refine Ends.icmp X19 hx (hb hby d4_9) 46 (by decide) (by decide) (fun q => ?_) (fun q => ?_)
  · have c9 : ¬ (z = (Int32.ofNat n)) := own_ne.1 q
    show Ends p e below _ T19 (mkF m 46 #[.val (.ref a), .val (.int id), .val (.long r), .second, .unset] [])
    exact J46 _ _ _ ida rka n fi fr (X19.more (by decide) (by decide)) e19 N0 Z0 E0 Fi0 Fr0 Fs0 Ai0 Ar0 Ac0 ne0 gi gr (own_room hz c9 Ai0 hsn) hn8 hp
  · have c9 : z = (Int32.ofNat n) := own_ne.2 q
    show Ends p e below _ T19 (mkF m 12 #[.val (.ref a), .val (.int id), .val (.long r), .second, .unset] [])
    refine Ends.by (fun _ => XS.aloadN X19.here hx rfl (hb hby d4_12) rfl rfl) ?_
    show Ends p e below _ T19 (mkF m 13 #[.val (.ref a), .val (.int id), .val (.long r), .second, .unset] [(.ref a)])
    refine Ends.by (fun _ => XS.aloadN X19.here hx rfl (hb hby d4_13) rfl rfl) ?_
    show Ends p e below _ T19 (mkF m 14 #[.val (.ref a), .val (.int id), .val (.long r), .second, .unset] [(.ref a), (.ref a)])
    obtain ⟨T20, X20, e20, st20⟩ := getF X19 hx hZ hown (host := "") (Or.inl (hw _ (List.mem_of_getElem? (i := 14) rfl))) Via.refl e19 Fi0 (g := (mkF m 14 #[.val (.ref a), .val (.int id), .val (.long r), .second, .unset] [(.ref a), (.ref a)])) rfl rfl (hb hby d4_14)
    refine Ends.by st20 ?_
    show Ends p e below _ T20 (mkF m 17 #[.val (.ref a), .val (.int id), .val (.long r), .second, .unset] [(.ref ida), (.ref a)])
    refine Ends.by (fun _ => XS.iconst X20.here hx rfl (hb hby d4_17)) ?_
    show Ends p e below _ T20 (mkF m 18 #[.val (.ref a), .val (.int id), .val (.long r), .second, .unset] [(.int (2 : Int32)), (.ref ida), (.ref a)])
    refine Ends.by (fun _ => XS.aloadN X20.here hx rfl (hb hby d4_18) rfl rfl) ?_
    show Ends p e below _ T20 (mkF m 19 #[.val (.ref a), .val (.int id), .val (.long r), .second, .unset] [(.ref a), (.int (2 : Int32)), (.ref ida), (.ref a)])
    obtain ⟨T21, X21, e21, st21⟩ := getF X20 hx hZ hown (host := "") (Or.inl (hw _ (List.mem_of_getElem? (i := 24) rfl))) Via.refl e20 Fs0 (g := (mkF m 19 #[.val (.ref a), .val (.int id), .val (.long r), .second, .unset] [(.ref a), (.int (2 : Int32)), (.ref ida), (.ref a)])) rfl rfl (hb hby d4_19)
    refine Ends.by st21 ?_
    show Ends p e below _ T21 (mkF m 22 #[.val (.ref a), .val (.int id), .val (.long r), .second, .unset] [(.int z), (.int (2 : Int32)), (.ref ida), (.ref a)])
    refine Ends.by (fun _ => XS.imul X21.here hx rfl (hb hby d4_22) rfl) ?_
    show Ends p e below _ T21 (mkF m 23 #[.val (.ref a), .val (.int id), .val (.long r), .second, .unset] [(.int ((2 : Int32) * z)), (.ref ida), (.ref a)])
    refine Ends.callS (argsL := [(.ref ida), (.int ((2 : Int32) * z))]) (rest := [(.ref a)]) X21 hx hZ hown (hw _ (List.mem_of_getElem? (i := 26) rfl)) (hw _ (List.mem_of_getElem? (i := 27) rfl)) (hw _ (List.mem_of_getElem? (i := 28) rfl)) (hw _ (List.mem_of_getElem? (i := 29) rfl)) (by decide) (con_5 l Z a0 hw ida ((2 : Int32) * z) n (2 * n) fi h0 n0 Z0 Ai0 (own_dblz hz c9 A1) (by omega) (own_n4 hz c9 A1 hs4)) e21 (by rw [hml]; rfl) (hb hby d4_23) (lenOf pd_5 rfl) 1 (Nat.le_of_eq rfl) (by decide) (by decide) (by decide) (by decide) ?_
    intro v T22 L22 X22 hQ
    obtain ⟨o22, rfl, N22q, K22q, A22q, gb22, gz22⟩ := hQ
    have N22 := Fr.app N0 N22q
    have E_a_22 : Exa Z T22.heap a "com/example/tiefast/tiefast/IdHeap" := E0.keep K22q
    have F_a_ids_22 : Fld Z T22.heap a "com/example/tiefast/tiefast/IdHeap" "ids" "[I" (.ref ida) := Fi0.keep K22q nin0
    have F_a_ranks_22 : Fld Z T22.heap a "com/example/tiefast/tiefast/IdHeap" "ranks" "[J" (.ref rka) := Fr0.keep K22q nin0
    have F_a_size_22 : Fld Z T22.heap a "com/example/tiefast/tiefast/IdHeap" "size" "I" (.int z) := Fs0.keep K22q nin0
    have A_ida_22 : Af Z T22.heap ida .int n (fun q => .int (fi q)) := Ai0.keep K22q nin0
    have A_rka_22 : Af Z T22.heap rka .long n (fun q => .long (fr q)) := Ar0.keep K22q nin0
    have A_rr_22 : Af Z T22.heap rr .long 5 (fun q => .long (r5 q)) := Ac0.keep K22q nin0
    have Z22 : n0 ≤ T22.heap.size := Nat.le_trans Z0 K22q.1
    have ne_ida_o22 : ida ≠ o22 := Nat.ne_of_lt (Nat.lt_of_lt_of_le Ai0.lt gz22)
    have ne_rka_o22 : rka ≠ o22 := Nat.ne_of_lt (Nat.lt_of_lt_of_le Ar0.lt gz22)
    have ne_rr_o22 : rr ≠ o22 := Nat.ne_of_lt (Nat.lt_of_lt_of_le Ac0.lt gz22)
    show Ends p e below _ T22 (mkF m 26 #[.val (.ref a), .val (.int id), .val (.long r), .second, .unset] [(.ref o22), (.ref a)])
    obtain ⟨T23, h23, X23, e23, W23, st23⟩ := putF X22 hx hZ hown (host := "") (Or.inl (hw _ (List.mem_of_getElem? (i := 14) rfl))) Via.refl rfl F_a_ids_22 E_a_22 (Or.inl (hw _ (List.mem_of_getElem? (i := 15) rfl))) (hw _ (List.mem_of_getElem? (i := 1) rfl)) (ty := (.array .int)) (by decide) rfl rfl (g := (mkF m 26 #[.val (.ref a), .val (.int id), .val (.long r), .second, .unset] [(.ref o22), (.ref a)])) rfl rfl (hb hby d4_26)
    refine Ends.by st23 ?_
    have F_a_ids_23 : Fld Z h23 a "com/example/tiefast/tiefast/IdHeap" "ids" "[I" (.ref o22) := F_a_ids_22.same W23
    have N23 := Fr.snoc X23 N22 ga
    have E_a_23 : Exa Z h23 a "com/example/tiefast/tiefast/IdHeap" := E_a_22.wr W23
    have F_a_ranks_23 : Fld Z h23 a "com/example/tiefast/tiefast/IdHeap" "ranks" "[J" (.ref rka) := F_a_ranks_22.other W23 (Or.inr (slot_ne (Or.inl (hw _ (List.mem_of_getElem? (i := 18) rfl))) (Or.inl (hw _ (List.mem_of_getElem? (i := 15) rfl))) (by decide) (t := (.array .long)) (t' := (.array .int)) (by decide) (by decide)))
    have F_a_size_23 : Fld Z h23 a "com/example/tiefast/tiefast/IdHeap" "size" "I" (.int z) := F_a_size_22.other W23 (Or.inr (slot_ne (Or.inl (hw _ (List.mem_of_getElem? (i := 25) rfl))) (Or.inl (hw _ (List.mem_of_getElem? (i := 15) rfl))) (by decide) (t := .int) (t' := (.array .int)) (by decide) (by decide)))
    have A_ida_23 : Af Z h23 ida .int n (fun q => .int (fi q)) := A_ida_22.other W23 (Ne.symm (own_apart E_a_22 A_ida_22 (hw _ (List.mem_of_getElem? (i := 1) rfl))))
    have A_rka_23 : Af Z h23 rka .long n (fun q => .long (fr q)) := A_rka_22.other W23 (Ne.symm (own_apart E_a_22 A_rka_22 (hw _ (List.mem_of_getElem? (i := 1) rfl))))
    have A_rr_23 : Af Z h23 rr .long 5 (fun q => .long (r5 q)) := A_rr_22.other W23 (Ne.symm (own_apart E_a_22 A_rr_22 (hw _ (List.mem_of_getElem? (i := 1) rfl))))
    have A_o22_23 : Af Z h23 o22 .int (2 * n) (fun q => .int ((own_cpI n fi) q)) := A22q.other W23 (Ne.symm (own_apart E_a_22 A22q (hw _ (List.mem_of_getElem? (i := 1) rfl))))
    have Z23 : n0 ≤ h23.size := Nat.le_trans Z22 (Nat.le_of_eq W23.size.symm)
    show Ends p e below _ T23 (mkF m 29 #[.val (.ref a), .val (.int id), .val (.long r), .second, .unset] [])
    refine Ends.by (fun _ => XS.aloadN X23.here hx rfl (hb hby d4_29) rfl rfl) ?_
    show Ends p e below _ T23 (mkF m 30 #[.val (.ref a), .val (.int id), .val (.long r), .second, .unset] [(.ref a)])
    refine Ends.by (fun _ => XS.aloadN X23.here hx rfl (hb hby d4_30) rfl rfl) ?_
    show Ends p e below _ T23 (mkF m 31 #[.val (.ref a), .val (.int id), .val (.long r), .second, .unset] [(.ref a), (.ref a)])
    obtain ⟨T24, X24, e24, st24⟩ := getF X23 hx hZ hown (host := "") (Or.inl (hw _ (List.mem_of_getElem? (i := 17) rfl))) Via.refl e23 F_a_ranks_23 (g := (mkF m 31 #[.val (.ref a), .val (.int id), .val (.long r), .second, .unset] [(.ref a), (.ref a)])) rfl rfl (hb hby d4_31)
    refine Ends.by st24 ?_
    show Ends p e below _ T24 (mkF m 34 #[.val (.ref a), .val (.int id), .val (.long r), .second, .unset] [(.ref rka), (.ref a)])
    refine Ends.by (fun _ => XS.iconst X24.here hx rfl (hb hby d4_34)) ?_
    show Ends p e below _ T24 (mkF m 35 #[.val (.ref a), .val (.int id), .val (.long r), .second, .unset] [(.int (2 : Int32)), (.ref rka), (.ref a)])
    refine Ends.by (fun _ => XS.aloadN X24.here hx rfl (hb hby d4_35) rfl rfl) ?_
    show Ends p e below _ T24 (mkF m 36 #[.val (.ref a), .val (.int id), .val (.long r), .second, .unset] [(.ref a), (.int (2 : Int32)), (.ref rka), (.ref a)])
    obtain ⟨T25, X25, e25, st25⟩ := getF X24 hx hZ hown (host := "") (Or.inl (hw _ (List.mem_of_getElem? (i := 24) rfl))) Via.refl e24 F_a_size_23 (g := (mkF m 36 #[.val (.ref a), .val (.int id), .val (.long r), .second, .unset] [(.ref a), (.int (2 : Int32)), (.ref rka), (.ref a)])) rfl rfl (hb hby d4_36)
    refine Ends.by st25 ?_
    show Ends p e below _ T25 (mkF m 39 #[.val (.ref a), .val (.int id), .val (.long r), .second, .unset] [(.int z), (.int (2 : Int32)), (.ref rka), (.ref a)])
    refine Ends.by (fun _ => XS.imul X25.here hx rfl (hb hby d4_39) rfl) ?_
    show Ends p e below _ T25 (mkF m 40 #[.val (.ref a), .val (.int id), .val (.long r), .second, .unset] [(.int ((2 : Int32) * z)), (.ref rka), (.ref a)])
    refine Ends.callS (argsL := [(.ref rka), (.int ((2 : Int32) * z))]) (rest := [(.ref a)]) X25 hx hZ hown (hw _ (List.mem_of_getElem? (i := 37) rfl)) (hw _ (List.mem_of_getElem? (i := 38) rfl)) (hw _ (List.mem_of_getElem? (i := 28) rfl)) (hw _ (List.mem_of_getElem? (i := 39) rfl)) (by decide) (con_7 l Z a0 hw rka ((2 : Int32) * z) n (2 * n) fr h23 n0 Z23 A_rka_23 (own_dblz hz c9 A1) (by omega) (own_n4 hz c9 A1 hs4)) e25 (by rw [hml]; rfl) (hb hby d4_40) (lenOf pd_7 rfl) 1 (Nat.le_of_eq rfl) (by decide) (by decide) (by decide) (by decide) ?_
    intro v T26 L26 X26 hQ
    obtain ⟨o26, rfl, N26q, K26q, A26q, gb26, gz26⟩ := hQ
    have N26 := Fr.app N23 N26q
    have E_a_26 : Exa Z T26.heap a "com/example/tiefast/tiefast/IdHeap" := E_a_23.keep K26q
    have F_a_ranks_26 : Fld Z T26.heap a "com/example/tiefast/tiefast/IdHeap" "ranks" "[J" (.ref rka) := F_a_ranks_23.keep K26q nin0
    have F_a_size_26 : Fld Z T26.heap a "com/example/tiefast/tiefast/IdHeap" "size" "I" (.int z) := F_a_size_23.keep K26q nin0
    have A_ida_26 : Af Z T26.heap ida .int n (fun q => .int (fi q)) := A_ida_23.keep K26q nin0
    have A_rka_26 : Af Z T26.heap rka .long n (fun q => .long (fr q)) := A_rka_23.keep K26q nin0
    have A_rr_26 : Af Z T26.heap rr .long 5 (fun q => .long (r5 q)) := A_rr_23.keep K26q nin0
    have A_o22_26 : Af Z T26.heap o22 .int (2 * n) (fun q => .int ((own_cpI n fi) q)) := A_o22_23.keep K26q nin0
    have F_a_ids_26 : Fld Z T26.heap a "com/example/tiefast/tiefast/IdHeap" "ids" "[I" (.ref o22) := F_a_ids_23.keep K26q nin0
    have Z26 : n0 ≤ T26.heap.size := Nat.le_trans Z23 K26q.1
    have ne_ida_o26 : ida ≠ o26 := Nat.ne_of_lt (Nat.lt_of_lt_of_le A_ida_23.lt gz26)
    have ne_rka_o26 : rka ≠ o26 := Nat.ne_of_lt (Nat.lt_of_lt_of_le A_rka_23.lt gz26)
    have ne_rr_o26 : rr ≠ o26 := Nat.ne_of_lt (Nat.lt_of_lt_of_le A_rr_23.lt gz26)
    have ne_o22_o26 : o22 ≠ o26 := Nat.ne_of_lt (Nat.lt_of_lt_of_le A_o22_23.lt gz26)
    show Ends p e below _ T26 (mkF m 43 #[.val (.ref a), .val (.int id), .val (.long r), .second, .unset] [(.ref o26), (.ref a)])
    obtain ⟨T27, h27, X27, e27, W27, st27⟩ := putF X26 hx hZ hown (host := "") (Or.inl (hw _ (List.mem_of_getElem? (i := 17) rfl))) Via.refl rfl F_a_ranks_26 E_a_26 (Or.inl (hw _ (List.mem_of_getElem? (i := 18) rfl))) (hw _ (List.mem_of_getElem? (i := 1) rfl)) (ty := (.array .long)) (by decide) rfl rfl (g := (mkF m 43 #[.val (.ref a), .val (.int id), .val (.long r), .second, .unset] [(.ref o26), (.ref a)])) rfl rfl (hb hby d4_43)
    refine Ends.by st27 ?_
    have F_a_ranks_27 : Fld Z h27 a "com/example/tiefast/tiefast/IdHeap" "ranks" "[J" (.ref o26) := F_a_ranks_26.same W27
    have N27 := Fr.snoc X27 N26 ga
    have E_a_27 : Exa Z h27 a "com/example/tiefast/tiefast/IdHeap" := E_a_26.wr W27
    have F_a_size_27 : Fld Z h27 a "com/example/tiefast/tiefast/IdHeap" "size" "I" (.int z) := F_a_size_26.other W27 (Or.inr (slot_ne (Or.inl (hw _ (List.mem_of_getElem? (i := 25) rfl))) (Or.inl (hw _ (List.mem_of_getElem? (i := 18) rfl))) (by decide) (t := .int) (t' := (.array .long)) (by decide) (by decide)))
    have A_ida_27 : Af Z h27 ida .int n (fun q => .int (fi q)) := A_ida_26.other W27 (Ne.symm (own_apart E_a_26 A_ida_26 (hw _ (List.mem_of_getElem? (i := 1) rfl))))
    have A_rka_27 : Af Z h27 rka .long n (fun q => .long (fr q)) := A_rka_26.other W27 (Ne.symm (own_apart E_a_26 A_rka_26 (hw _ (List.mem_of_getElem? (i := 1) rfl))))
    have A_rr_27 : Af Z h27 rr .long 5 (fun q => .long (r5 q)) := A_rr_26.other W27 (Ne.symm (own_apart E_a_26 A_rr_26 (hw _ (List.mem_of_getElem? (i := 1) rfl))))
    have A_o22_27 : Af Z h27 o22 .int (2 * n) (fun q => .int ((own_cpI n fi) q)) := A_o22_26.other W27 (Ne.symm (own_apart E_a_26 A_o22_26 (hw _ (List.mem_of_getElem? (i := 1) rfl))))
    have F_a_ids_27 : Fld Z h27 a "com/example/tiefast/tiefast/IdHeap" "ids" "[I" (.ref o22) := F_a_ids_26.other W27 (Or.inr (slot_ne (Or.inl (hw _ (List.mem_of_getElem? (i := 15) rfl))) (Or.inl (hw _ (List.mem_of_getElem? (i := 18) rfl))) (by decide) (t := (.array .int)) (t' := (.array .long)) (by decide) (by decide)))
    have A_o26_27 : Af Z h27 o26 .long (2 * n) (fun q => .long ((own_cpJ n fr) q)) := A26q.other W27 (Ne.symm (own_apart E_a_26 A26q (hw _ (List.mem_of_getElem? (i := 1) rfl))))
    have Z27 : n0 ≤ h27.size := Nat.le_trans Z26 (Nat.le_of_eq W27.size.symm)
    show Ends p e below _ T27 (mkF m 46 #[.val (.ref a), .val (.int id), .val (.long r), .second, .unset] [])
    exact J46 _ _ _ o22 o26 (2 * n) (own_cpI n fi) (own_cpJ n fr) (X27.more (by decide) (by decide)) e27 N27 Z27 E_a_27 F_a_ids_27 F_a_ranks_27 F_a_size_27 A_o22_27 A_o26_27 A_rr_27 (Ne.symm ne_rr_o26) gb22 gb26 (by have := own_sz hz c9 Ai0; omega) (own_n4 hz c9 Ai0 hs4) (hp.grown hsn)
theorem own_ltn {u w : Int32} {A B : Nat} (hu : u.toInt = (A : Int)) (hw : w.toInt = (B : Int)) (h : u < w) : A < B := by rw [Int32.lt_iff_toInt_lt] at h; omega
theorem own_gen {u w : Int32} {A B : Nat} (hu : u.toInt = (A : Int)) (hw : w.toInt = (B : Int)) (h : ¬ u < w) : B ≤ A := by rw [Int32.lt_iff_toInt_lt] at h; omega
theorem own_ltn2 {u w : Int32} {H B : Nat} (hu : u.toInt = ((2 * H + 1 : Nat) : Int)) (hw : w.toInt = (B : Int)) (h : u + (1 : Int32) < w) (hH : H ≤ 45 := by omega) : 2 * H + 2 < B := own_ltn (own_inc hu (by omega)) hw h
theorem own_gen2 {u w : Int32} {H B : Nat} (hu : u.toInt = ((2 * H + 1 : Nat) : Int)) (hw : w.toInt = (B : Int)) (h : ¬ u + (1 : Int32) < w) (hH : H ≤ 45 := by omega) : B ≤ 2 * H + 2 := own_gen (own_inc hu (by omega)) hw h
theorem own_none {n H : Nat} {q : Nat → Int64} {rl : Int64} (h : n ≤ 2 * H + 1) : ∀ k, 0 < k → k < n → (k - 1) / 2 = H → rl.toInt ≤ (q k).toInt := fun k k0 k1 k2 => by omega
theorem own_one {n H : Nat} {q : Nat → Int64} (h : n ≤ 2 * H + 2) : ∀ k, 0 < k → k < n → (k - 1) / 2 = H → (q (2 * H + 1)).toInt ≤ (q k).toInt := fun k k0 k1 k2 => by
  have : k = 2 * H + 1 := by omega
  rw [this]; exact Int.le_refl _
theorem own_both1 {n H : Nat} {q : Nat → Int64} (h : (q (2 * H + 1)).toInt ≤ (q (2 * H + 2)).toInt) : ∀ k, 0 < k → k < n → (k - 1) / 2 = H → (q (2 * H + 1)).toInt ≤ (q k).toInt := fun k k0 k1 k2 => by
  have : k = 2 * H + 1 ∨ k = 2 * H + 2 := by omega
  rcases this with z | z
  · rw [z]; exact Int.le_refl _
  · rw [z]; exact h
theorem own_both2 {n H : Nat} {q : Nat → Int64} (h : (q (2 * H + 2)).toInt < (q (2 * H + 1)).toInt) : ∀ k, 0 < k → k < n → (k - 1) / 2 = H → (q (2 * H + 2)).toInt ≤ (q k).toInt := fun k k0 k1 k2 => by
  have : k = 2 * H + 1 ∨ k = 2 * H + 2 := by omega
  rcases this with z | z
  · rw [z]; omega
  · rw [z]; exact Int.le_refl _
theorem own_child {u : Int32} {k : Nat} (h : u.toInt = (k : Int)) (hk : k ≤ 45) : ((2 : Int32) * u + (1 : Int32)).toInt = ((2 * k + 1 : Nat) : Int) := own_inc (own_dbl h (by omega)) (by omega)
theorem own_last {r5 : Nat → Int64} {B n : Nat} {fi : Nat → Int32} {fr : Nat → Int64} (H : HP r5 B (n + 1) fi fr) : 0 < n → 0 ≤ (fi n).toInt ∧ (fi n).toInt < (B : Int) ∧ fr n = r5 (fi n).toInt.toNat ∧ fi n ≠ fi 0 ∧ ∃ j, j < n + 1 ∧ fi n = fi j := fun h => by
  have q := H.1 n (by omega)
  exact ⟨q.1, q.2.1, q.2.2, fun z => by have := H.2.1 n 0 (by omega) (by omega) z; omega, n, by omega, rfl⟩
theorem d8_0 : decode prog_19_method_5_code 0 = .ok (.aload_n 0, 1) := by decide +kernel
theorem d8_1 : decode prog_19_method_5_code 1 = .ok (.getfield 13, 3) := by decide +kernel
theorem d8_4 : decode prog_19_method_5_code 4 = .ok (.iconst 0, 1) := by decide +kernel
theorem d8_5 : decode prog_19_method_5_code 5 = .ok (.iaload, 1) := by decide +kernel
theorem d8_6 : decode prog_19_method_5_code 6 = .ok (.istore_n 1, 1) := by decide +kernel
theorem d8_7 : decode prog_19_method_5_code 7 = .ok (.aload_n 0, 1) := by decide +kernel
theorem d8_8 : decode prog_19_method_5_code 8 = .ok (.getfield 13, 3) := by decide +kernel
theorem d8_11 : decode prog_19_method_5_code 11 = .ok (.aload_n 0, 1) := by decide +kernel
theorem d8_12 : decode prog_19_method_5_code 12 = .ok (.dup, 1) := by decide +kernel
theorem d8_13 : decode prog_19_method_5_code 13 = .ok (.getfield 23, 3) := by decide +kernel
theorem d8_16 : decode prog_19_method_5_code 16 = .ok (.iconst 1, 1) := by decide +kernel
theorem d8_17 : decode prog_19_method_5_code 17 = .ok (.isub, 1) := by decide +kernel
theorem d8_18 : decode prog_19_method_5_code 18 = .ok (.dup_x1, 1) := by decide +kernel
theorem d8_19 : decode prog_19_method_5_code 19 = .ok (.putfield 23, 3) := by decide +kernel
theorem d8_22 : decode prog_19_method_5_code 22 = .ok (.iaload, 1) := by decide +kernel
theorem d8_23 : decode prog_19_method_5_code 23 = .ok (.istore_n 2, 1) := by decide +kernel
theorem d8_24 : decode prog_19_method_5_code 24 = .ok (.aload_n 0, 1) := by decide +kernel
theorem d8_25 : decode prog_19_method_5_code 25 = .ok (.getfield 19, 3) := by decide +kernel
theorem d8_28 : decode prog_19_method_5_code 28 = .ok (.aload_n 0, 1) := by decide +kernel
theorem d8_29 : decode prog_19_method_5_code 29 = .ok (.getfield 23, 3) := by decide +kernel
theorem d8_32 : decode prog_19_method_5_code 32 = .ok (.laload, 1) := by decide +kernel
theorem d8_33 : decode prog_19_method_5_code 33 = .ok (.lstore_n 3, 1) := by decide +kernel
theorem d8_34 : decode prog_19_method_5_code 34 = .ok (.iconst 0, 1) := by decide +kernel
theorem d8_35 : decode prog_19_method_5_code 35 = .ok (.istore 5, 2) := by decide +kernel
theorem d8_37 : decode prog_19_method_5_code 37 = .ok (.iconst 1, 1) := by decide +kernel
theorem d8_38 : decode prog_19_method_5_code 38 = .ok (.istore 6, 2) := by decide +kernel
theorem d8_40 : decode prog_19_method_5_code 40 = .ok (.iload 6, 2) := by decide +kernel
theorem d8_42 : decode prog_19_method_5_code 42 = .ok (.aload_n 0, 1) := by decide +kernel
theorem d8_43 : decode prog_19_method_5_code 43 = .ok (.getfield 23, 3) := by decide +kernel
theorem d8_46 : decode prog_19_method_5_code 46 = .ok (.if_icmp .ge 95, 3) := by decide +kernel
theorem d8_49 : decode prog_19_method_5_code 49 = .ok (.iload 6, 2) := by decide +kernel
theorem d8_51 : decode prog_19_method_5_code 51 = .ok (.iconst 1, 1) := by decide +kernel
theorem d8_52 : decode prog_19_method_5_code 52 = .ok (.iadd, 1) := by decide +kernel
theorem d8_53 : decode prog_19_method_5_code 53 = .ok (.aload_n 0, 1) := by decide +kernel
theorem d8_54 : decode prog_19_method_5_code 54 = .ok (.getfield 23, 3) := by decide +kernel
theorem d8_57 : decode prog_19_method_5_code 57 = .ok (.if_icmp .ge 26, 3) := by decide +kernel
theorem d8_60 : decode prog_19_method_5_code 60 = .ok (.aload_n 0, 1) := by decide +kernel
theorem d8_61 : decode prog_19_method_5_code 61 = .ok (.getfield 19, 3) := by decide +kernel
theorem d8_64 : decode prog_19_method_5_code 64 = .ok (.iload 6, 2) := by decide +kernel
theorem d8_66 : decode prog_19_method_5_code 66 = .ok (.iconst 1, 1) := by decide +kernel
theorem d8_67 : decode prog_19_method_5_code 67 = .ok (.iadd, 1) := by decide +kernel
theorem d8_68 : decode prog_19_method_5_code 68 = .ok (.laload, 1) := by decide +kernel
theorem d8_69 : decode prog_19_method_5_code 69 = .ok (.aload_n 0, 1) := by decide +kernel
theorem d8_70 : decode prog_19_method_5_code 70 = .ok (.getfield 19, 3) := by decide +kernel
theorem d8_73 : decode prog_19_method_5_code 73 = .ok (.iload 6, 2) := by decide +kernel
theorem d8_75 : decode prog_19_method_5_code 75 = .ok (.laload, 1) := by decide +kernel
theorem d8_76 : decode prog_19_method_5_code 76 = .ok (.lcmp, 1) := by decide +kernel
theorem d8_77 : decode prog_19_method_5_code 77 = .ok (.ifCond .ge 6, 3) := by decide +kernel
theorem d8_80 : decode prog_19_method_5_code 80 = .ok (.iinc 6 1, 3) := by decide +kernel
theorem d8_83 : decode prog_19_method_5_code 83 = .ok (.aload_n 0, 1) := by decide +kernel
theorem d8_84 : decode prog_19_method_5_code 84 = .ok (.getfield 19, 3) := by decide +kernel
theorem d8_87 : decode prog_19_method_5_code 87 = .ok (.iload 6, 2) := by decide +kernel
theorem d8_89 : decode prog_19_method_5_code 89 = .ok (.laload, 1) := by decide +kernel
theorem d8_90 : decode prog_19_method_5_code 90 = .ok (.lload_n 3, 1) := by decide +kernel
theorem d8_91 : decode prog_19_method_5_code 91 = .ok (.lcmp, 1) := by decide +kernel
theorem d8_92 : decode prog_19_method_5_code 92 = .ok (.ifCond .lt 6, 3) := by decide +kernel
theorem d8_95 : decode prog_19_method_5_code 95 = .ok (.goto 46, 3) := by decide +kernel
theorem d8_98 : decode prog_19_method_5_code 98 = .ok (.aload_n 0, 1) := by decide +kernel
theorem d8_99 : decode prog_19_method_5_code 99 = .ok (.getfield 13, 3) := by decide +kernel
theorem d8_102 : decode prog_19_method_5_code 102 = .ok (.iload 5, 2) := by decide +kernel
theorem d8_104 : decode prog_19_method_5_code 104 = .ok (.aload_n 0, 1) := by decide +kernel
theorem d8_105 : decode prog_19_method_5_code 105 = .ok (.getfield 13, 3) := by decide +kernel
theorem d8_108 : decode prog_19_method_5_code 108 = .ok (.iload 6, 2) := by decide +kernel
theorem d8_110 : decode prog_19_method_5_code 110 = .ok (.iaload, 1) := by decide +kernel
theorem d8_111 : decode prog_19_method_5_code 111 = .ok (.iastore, 1) := by decide +kernel
theorem d8_112 : decode prog_19_method_5_code 112 = .ok (.aload_n 0, 1) := by decide +kernel
theorem d8_113 : decode prog_19_method_5_code 113 = .ok (.getfield 19, 3) := by decide +kernel
theorem d8_116 : decode prog_19_method_5_code 116 = .ok (.iload 5, 2) := by decide +kernel
theorem d8_118 : decode prog_19_method_5_code 118 = .ok (.aload_n 0, 1) := by decide +kernel
theorem d8_119 : decode prog_19_method_5_code 119 = .ok (.getfield 19, 3) := by decide +kernel
theorem d8_122 : decode prog_19_method_5_code 122 = .ok (.iload 6, 2) := by decide +kernel
theorem d8_124 : decode prog_19_method_5_code 124 = .ok (.laload, 1) := by decide +kernel
theorem d8_125 : decode prog_19_method_5_code 125 = .ok (.lastore, 1) := by decide +kernel
theorem d8_126 : decode prog_19_method_5_code 126 = .ok (.iload 6, 2) := by decide +kernel
theorem d8_128 : decode prog_19_method_5_code 128 = .ok (.istore 5, 2) := by decide +kernel
theorem d8_130 : decode prog_19_method_5_code 130 = .ok (.iconst 2, 1) := by decide +kernel
theorem d8_131 : decode prog_19_method_5_code 131 = .ok (.iload 5, 2) := by decide +kernel
theorem d8_133 : decode prog_19_method_5_code 133 = .ok (.imul, 1) := by decide +kernel
theorem d8_134 : decode prog_19_method_5_code 134 = .ok (.iconst 1, 1) := by decide +kernel
theorem d8_135 : decode prog_19_method_5_code 135 = .ok (.iadd, 1) := by decide +kernel
theorem d8_136 : decode prog_19_method_5_code 136 = .ok (.istore 6, 2) := by decide +kernel
theorem d8_138 : decode prog_19_method_5_code 138 = .ok (.goto (-98), 3) := by decide +kernel
theorem d8_141 : decode prog_19_method_5_code 141 = .ok (.aload_n 0, 1) := by decide +kernel
theorem d8_142 : decode prog_19_method_5_code 142 = .ok (.getfield 13, 3) := by decide +kernel
theorem d8_145 : decode prog_19_method_5_code 145 = .ok (.iload 5, 2) := by decide +kernel
theorem d8_147 : decode prog_19_method_5_code 147 = .ok (.iload_n 2, 1) := by decide +kernel
theorem d8_148 : decode prog_19_method_5_code 148 = .ok (.iastore, 1) := by decide +kernel
theorem d8_149 : decode prog_19_method_5_code 149 = .ok (.aload_n 0, 1) := by decide +kernel
theorem d8_150 : decode prog_19_method_5_code 150 = .ok (.getfield 19, 3) := by decide +kernel
theorem d8_153 : decode prog_19_method_5_code 153 = .ok (.iload 5, 2) := by decide +kernel
theorem d8_155 : decode prog_19_method_5_code 155 = .ok (.lload_n 3, 1) := by decide +kernel
theorem d8_156 : decode prog_19_method_5_code 156 = .ok (.lastore, 1) := by decide +kernel
theorem d8_157 : decode prog_19_method_5_code 157 = .ok (.iload_n 1, 1) := by decide +kernel
theorem d8_158 : decode prog_19_method_5_code 158 = .ok (.ireturn, 1) := by decide +kernel
theorem pd_8 : parseMethodDescriptor "()I" = some ⟨[], some .int⟩ := by decide +kernel
theorem pf_8 : plainFor (⟨"com/example/tiefast/tiefast/IdHeap", "takeFirst", "()I"⟩ : MethodName) = true := plainFor_of_name (by first | (simp [plainName, overriddenIn, x]; done) | decide +kernel)
theorem ef_8 (m : MethodId) (a : Addr) : entryFrame m #[(.ref a)] 7 = mkF m 0 #[.val (.ref a), .unset, .unset, .unset, .unset, .unset, .unset] [] := by first | (simp [entryFrame, mkF, argsToLocals, Value.category]; done) | rfl
set_option maxRecDepth 65536 in
set_option maxHeartbeats 40000000 in
theorem con_8 (l : Launch) (Z : State) (a0 : Array Value) (hw : ∀ d ∈ tables_1, d.before a0 Z = true) (a : Addr) (ida rka rr : Addr) (n sN B : Nat) (z : Int32) (fi : Nat → Int32) (fr r5 : Nat → Int64) (h0 : Heap) (n0 : Nat) (Z0 : n0 ≤ h0.size) (E0 : Exa Z h0 a "com/example/tiefast/tiefast/IdHeap") (Fi0 : Fld Z h0 a "com/example/tiefast/tiefast/IdHeap" "ids" "[I" (.ref ida)) (Fr0 : Fld Z h0 a "com/example/tiefast/tiefast/IdHeap" "ranks" "[J" (.ref rka)) (Fs0 : Fld Z h0 a "com/example/tiefast/tiefast/IdHeap" "size" "I" (.int z)) (Ai0 : Af Z h0 ida .int n (fun q => .int (fi q))) (Ar0 : Af Z h0 rka .long n (fun q => .long (fr q))) (Ac0 : Af Z h0 rr .long 5 (fun q => .long (r5 q))) (ne0 : rka ≠ rr) (ga : n0 ≤ a) (gi : n0 ≤ ida) (gr : n0 ≤ rka) (hz : z.toInt = ((sN + 1 : Nat) : Int)) (hsn : sN + 1 ≤ n) (hn8 : n ≤ 8) (hp : HP r5 B (sN + 1) fi fr) : Con l Z (⟨"com/example/tiefast/tiefast/IdHeap", "takeFirst", "()I"⟩ : MethodName) prog_19_method_5_code 7 (some .int) ({ frames := 0, cells := 0, slots := 0, locals := 0 } : Room) #[(.ref a)] h0 (fun v h L => ∃ (ia ra : Addr) (n' : Nat) (z' : Int32) (fi' : Nat → Int32) (fr' : Nat → Int64), v = some (.int (fi 0)) ∧ Fr n0 L ∧ n0 ≤ h.size ∧ Exa Z h a "com/example/tiefast/tiefast/IdHeap" ∧ Fld Z h a "com/example/tiefast/tiefast/IdHeap" "ids" "[I" (.ref ia) ∧ Fld Z h a "com/example/tiefast/tiefast/IdHeap" "ranks" "[J" (.ref ra) ∧ Fld Z h a "com/example/tiefast/tiefast/IdHeap" "size" "I" (.int z') ∧ Af Z h ia .int n' (fun q => .int (fi' q)) ∧ Af Z h ra .long n' (fun q => .long (fr' q)) ∧ Af Z h rr .long 5 (fun q => .long (r5 q)) ∧ ra ≠ rr ∧ n0 ≤ ia ∧ n0 ≤ ra ∧ z'.toInt = ((sN : Nat) : Int) ∧ sN + 1 ≤ n' ∧ n' ≤ 8 ∧ HP r5 B sN fi' fr' ∧ ∀ k, k < sN → fi' k ≠ fi 0 ∧ ∃ j, j < sN + 1 ∧ fi' k = fi j) := by
  refine Con.intro pf_8 ?_
  intro p e s m below meth c s₁ hx hby hml hown hnm hret hlk hZ X0 e0
  refine Ends.cast (ef_8 m a) ?_
  have N0 := Fr.nil n0
  have hz1 := own_dec hz
  refine Ends.by (fun _ => XS.aloadN X0.here hx rfl (hb hby d8_0) rfl rfl) ?_
  show Ends p e below _ s₁ (mkF m 1 #[.val (.ref a), .unset, .unset, .unset, .unset, .unset, .unset] [(.ref a)])
  obtain ⟨T1, X1, e1, st1⟩ := getF X0 hx hZ hown (host := "") (Or.inl (hw _ (List.mem_of_getElem? (i := 14) rfl))) Via.refl e0 Fi0 (g := (mkF m 1 #[.val (.ref a), .unset, .unset, .unset, .unset, .unset, .unset] [(.ref a)])) rfl rfl (hb hby d8_1)
  refine Ends.by st1 ?_
  show Ends p e below _ T1 (mkF m 4 #[.val (.ref a), .unset, .unset, .unset, .unset, .unset, .unset] [(.ref ida)])
  refine Ends.by (fun _ => XS.iconst X1.here hx rfl (hb hby d8_4)) ?_
  show Ends p e below _ T1 (mkF m 5 #[.val (.ref a), .unset, .unset, .unset, .unset, .unset, .unset] [(.int (0 : Int32)), (.ref ida)])
  refine Ends.ldI X1 hx hZ e1 Ai0 (k := 0) (by decide) (by omega) (v := (.int (fi 0))) rfl (hb hby d8_5) ?_
  show Ends p e below _ T1 (mkF m 6 #[.val (.ref a), .unset, .unset, .unset, .unset, .unset, .unset] [(.int (fi 0))])
  refine Ends.by (fun _ => XS.istoreN X1.here hx rfl (hb hby d8_6) rfl (l' := #[.val (.ref a), .val (.int (fi 0)), .unset, .unset, .unset, .unset, .unset]) rfl) ?_
  show Ends p e below _ T1 (mkF m 7 #[.val (.ref a), .val (.int (fi 0)), .unset, .unset, .unset, .unset, .unset] [])
  refine Ends.by (fun _ => XS.aloadN X1.here hx rfl (hb hby d8_7) rfl rfl) ?_
  show Ends p e below _ T1 (mkF m 8 #[.val (.ref a), .val (.int (fi 0)), .unset, .unset, .unset, .unset, .unset] [(.ref a)])
  obtain ⟨T2, X2, e2, st2⟩ := getF X1 hx hZ hown (host := "") (Or.inl (hw _ (List.mem_of_getElem? (i := 14) rfl))) Via.refl e1 Fi0 (g := (mkF m 8 #[.val (.ref a), .val (.int (fi 0)), .unset, .unset, .unset, .unset, .unset] [(.ref a)])) rfl rfl (hb hby d8_8)
  refine Ends.by st2 ?_
  show Ends p e below _ T2 (mkF m 11 #[.val (.ref a), .val (.int (fi 0)), .unset, .unset, .unset, .unset, .unset] [(.ref ida)])
  refine Ends.by (fun _ => XS.aloadN X2.here hx rfl (hb hby d8_11) rfl rfl) ?_
  show Ends p e below _ T2 (mkF m 12 #[.val (.ref a), .val (.int (fi 0)), .unset, .unset, .unset, .unset, .unset] [(.ref a), (.ref ida)])
  refine Ends.by (fun _ => XS.dup X2.here hx rfl (hb hby d8_12) rfl rfl) ?_
  show Ends p e below _ T2 (mkF m 13 #[.val (.ref a), .val (.int (fi 0)), .unset, .unset, .unset, .unset, .unset] [(.ref a), (.ref a), (.ref ida)])
  obtain ⟨T3, X3, e3, st3⟩ := getF X2 hx hZ hown (host := "") (Or.inl (hw _ (List.mem_of_getElem? (i := 24) rfl))) Via.refl e2 Fs0 (g := (mkF m 13 #[.val (.ref a), .val (.int (fi 0)), .unset, .unset, .unset, .unset, .unset] [(.ref a), (.ref a), (.ref ida)])) rfl rfl (hb hby d8_13)
  refine Ends.by st3 ?_
  show Ends p e below _ T3 (mkF m 16 #[.val (.ref a), .val (.int (fi 0)), .unset, .unset, .unset, .unset, .unset] [(.int z), (.ref a), (.ref ida)])
  refine Ends.by (fun _ => XS.iconst X3.here hx rfl (hb hby d8_16)) ?_
  show Ends p e below _ T3 (mkF m 17 #[.val (.ref a), .val (.int (fi 0)), .unset, .unset, .unset, .unset, .unset] [(.int (1 : Int32)), (.int z), (.ref a), (.ref ida)])
  refine Ends.by (fun _ => XS.isub X3.here hx rfl (hb hby d8_17) rfl) ?_
  show Ends p e below _ T3 (mkF m 18 #[.val (.ref a), .val (.int (fi 0)), .unset, .unset, .unset, .unset, .unset] [(.int (z - (1 : Int32))), (.ref a), (.ref ida)])
  refine Ends.by (fun _ => XS.dupX1 X3.here hx rfl (hb hby d8_18) rfl rfl rfl) ?_
  show Ends p e below _ T3 (mkF m 19 #[.val (.ref a), .val (.int (fi 0)), .unset, .unset, .unset, .unset, .unset] [(.int (z - (1 : Int32))), (.ref a), (.int (z - (1 : Int32))), (.ref ida)])
  obtain ⟨T4, h4, X4, e4, W4, st4⟩ := putF X3 hx hZ hown (host := "") (Or.inl (hw _ (List.mem_of_getElem? (i := 24) rfl))) Via.refl e3 Fs0 E0 (Or.inl (hw _ (List.mem_of_getElem? (i := 25) rfl))) (hw _ (List.mem_of_getElem? (i := 1) rfl)) (ty := .int) (by decide) rfl rfl (g := (mkF m 19 #[.val (.ref a), .val (.int (fi 0)), .unset, .unset, .unset, .unset, .unset] [(.int (z - (1 : Int32))), (.ref a), (.int (z - (1 : Int32))), (.ref ida)])) rfl rfl (hb hby d8_19)
  refine Ends.by st4 ?_
  have F_a_size_4 : Fld Z h4 a "com/example/tiefast/tiefast/IdHeap" "size" "I" (.int (z - (1 : Int32))) := Fs0.same W4
  have N4 := Fr.snoc X4 N0 ga
  have E_a_4 : Exa Z h4 a "com/example/tiefast/tiefast/IdHeap" := E0.wr W4
  have F_a_ids_4 : Fld Z h4 a "com/example/tiefast/tiefast/IdHeap" "ids" "[I" (.ref ida) := Fi0.other W4 (Or.inr (slot_ne (Or.inl (hw _ (List.mem_of_getElem? (i := 15) rfl))) (Or.inl (hw _ (List.mem_of_getElem? (i := 25) rfl))) (by decide) (t := (.array .int)) (t' := .int) (by decide) (by decide)))
  have F_a_ranks_4 : Fld Z h4 a "com/example/tiefast/tiefast/IdHeap" "ranks" "[J" (.ref rka) := Fr0.other W4 (Or.inr (slot_ne (Or.inl (hw _ (List.mem_of_getElem? (i := 18) rfl))) (Or.inl (hw _ (List.mem_of_getElem? (i := 25) rfl))) (by decide) (t := (.array .long)) (t' := .int) (by decide) (by decide)))
  have A_ida_4 : Af Z h4 ida .int n (fun q => .int (fi q)) := Ai0.other W4 (Ne.symm (own_apart E0 Ai0 (hw _ (List.mem_of_getElem? (i := 1) rfl))))
  have A_rka_4 : Af Z h4 rka .long n (fun q => .long (fr q)) := Ar0.other W4 (Ne.symm (own_apart E0 Ar0 (hw _ (List.mem_of_getElem? (i := 1) rfl))))
  have A_rr_4 : Af Z h4 rr .long 5 (fun q => .long (r5 q)) := Ac0.other W4 (Ne.symm (own_apart E0 Ac0 (hw _ (List.mem_of_getElem? (i := 1) rfl))))
  have Z4 : n0 ≤ h4.size := Nat.le_trans Z0 (Nat.le_of_eq W4.size.symm)
  show Ends p e below _ T4 (mkF m 22 #[.val (.ref a), .val (.int (fi 0)), .unset, .unset, .unset, .unset, .unset] [(.int (z - (1 : Int32))), (.ref ida)])
  refine Ends.ldI X4 hx hZ e4 A_ida_4 (k := sN) hz1 (by omega) (v := (.int (fi sN))) rfl (hb hby d8_22) ?_
  show Ends p e below _ T4 (mkF m 23 #[.val (.ref a), .val (.int (fi 0)), .unset, .unset, .unset, .unset, .unset] [(.int (fi sN))])
  refine Ends.by (fun _ => XS.istoreN X4.here hx rfl (hb hby d8_23) rfl (l' := #[.val (.ref a), .val (.int (fi 0)), .val (.int (fi sN)), .unset, .unset, .unset, .unset]) rfl) ?_
  show Ends p e below _ T4 (mkF m 24 #[.val (.ref a), .val (.int (fi 0)), .val (.int (fi sN)), .unset, .unset, .unset, .unset] [])
  refine Ends.by (fun _ => XS.aloadN X4.here hx rfl (hb hby d8_24) rfl rfl) ?_
  show Ends p e below _ T4 (mkF m 25 #[.val (.ref a), .val (.int (fi 0)), .val (.int (fi sN)), .unset, .unset, .unset, .unset] [(.ref a)])
  obtain ⟨T5, X5, e5, st5⟩ := getF X4 hx hZ hown (host := "") (Or.inl (hw _ (List.mem_of_getElem? (i := 17) rfl))) Via.refl e4 F_a_ranks_4 (g := (mkF m 25 #[.val (.ref a), .val (.int (fi 0)), .val (.int (fi sN)), .unset, .unset, .unset, .unset] [(.ref a)])) rfl rfl (hb hby d8_25)
  refine Ends.by st5 ?_
  show Ends p e below _ T5 (mkF m 28 #[.val (.ref a), .val (.int (fi 0)), .val (.int (fi sN)), .unset, .unset, .unset, .unset] [(.ref rka)])
  refine Ends.by (fun _ => XS.aloadN X5.here hx rfl (hb hby d8_28) rfl rfl) ?_
  show Ends p e below _ T5 (mkF m 29 #[.val (.ref a), .val (.int (fi 0)), .val (.int (fi sN)), .unset, .unset, .unset, .unset] [(.ref a), (.ref rka)])
  obtain ⟨T6, X6, e6, st6⟩ := getF X5 hx hZ hown (host := "") (Or.inl (hw _ (List.mem_of_getElem? (i := 24) rfl))) Via.refl e5 F_a_size_4 (g := (mkF m 29 #[.val (.ref a), .val (.int (fi 0)), .val (.int (fi sN)), .unset, .unset, .unset, .unset] [(.ref a), (.ref rka)])) rfl rfl (hb hby d8_29)
  refine Ends.by st6 ?_
  show Ends p e below _ T6 (mkF m 32 #[.val (.ref a), .val (.int (fi 0)), .val (.int (fi sN)), .unset, .unset, .unset, .unset] [(.int (z - (1 : Int32))), (.ref rka)])
  refine Ends.ldJ X6 hx hZ e6 A_rka_4 (k := sN) hz1 (by omega) (v := (.long (fr sN))) rfl (hb hby d8_32) ?_
  show Ends p e below _ T6 (mkF m 33 #[.val (.ref a), .val (.int (fi 0)), .val (.int (fi sN)), .unset, .unset, .unset, .unset] [(.long (fr sN))])
  refine Ends.by (fun _ => XS.lstoreN X6.here hx rfl (hb hby d8_33) rfl (l' := #[.val (.ref a), .val (.int (fi 0)), .val (.int (fi sN)), .val (.long (fr sN)), .second, .unset, .unset]) rfl) ?_
  show Ends p e below _ T6 (mkF m 34 #[.val (.ref a), .val (.int (fi 0)), .val (.int (fi sN)), .val (.long (fr sN)), .second, .unset, .unset] [])
  refine Ends.by (fun _ => XS.iconst X6.here hx rfl (hb hby d8_34)) ?_
  show Ends p e below _ T6 (mkF m 35 #[.val (.ref a), .val (.int (fi 0)), .val (.int (fi sN)), .val (.long (fr sN)), .second, .unset, .unset] [(.int (0 : Int32))])
  refine Ends.by (fun _ => XS.istore X6.here hx rfl (hb hby d8_35) rfl (l' := #[.val (.ref a), .val (.int (fi 0)), .val (.int (fi sN)), .val (.long (fr sN)), .second, .val (.int (0 : Int32)), .unset]) rfl) ?_
  show Ends p e below _ T6 (mkF m 37 #[.val (.ref a), .val (.int (fi 0)), .val (.int (fi sN)), .val (.long (fr sN)), .second, .val (.int (0 : Int32)), .unset] [])
  refine Ends.by (fun _ => XS.iconst X6.here hx rfl (hb hby d8_37)) ?_
  show Ends p e below _ T6 (mkF m 38 #[.val (.ref a), .val (.int (fi 0)), .val (.int (fi sN)), .val (.long (fr sN)), .second, .val (.int (0 : Int32)), .unset] [(.int (1 : Int32))])
  refine Ends.by (fun _ => XS.istore X6.here hx rfl (hb hby d8_38) rfl (l' := #[.val (.ref a), .val (.int (fi 0)), .val (.int (fi sN)), .val (.long (fr sN)), .second, .val (.int (0 : Int32)), .val (.int (1 : Int32))]) rfl) ?_
  show Ends p e below _ T6 (mkF m 40 #[.val (.ref a), .val (.int (fi 0)), .val (.int (fi sN)), .val (.long (fr sN)), .second, .val (.int (0 : Int32)), .val (.int (1 : Int32))] [])
  have loop : ∀ (k H : Nat) (i5 i6 : Int32) (T5 : State) (h5 : Heap) (L5 : List Loc) (g5 : Nat → Int32) (q5 : Nat → Int64), 100 - H = k → H ≤ 100 → H < n → i5.toInt = (H : Int) → i6.toInt = ((2 * H + 1 : Nat) : Int) → Stand p l e ({ frames := 0, cells := 0, slots := 0, locals := 0 } : Room) s m #[(.ref a)] below meth c T5 L5 0 0 → T5.heap = h5 → Fr n0 L5 → n0 ≤ h5.size → Exa Z h5 a "com/example/tiefast/tiefast/IdHeap" → Fld Z h5 a "com/example/tiefast/tiefast/IdHeap" "ids" "[I" (.ref ida) → Fld Z h5 a "com/example/tiefast/tiefast/IdHeap" "ranks" "[J" (.ref rka) → Fld Z h5 a "com/example/tiefast/tiefast/IdHeap" "size" "I" (.int (z - (1 : Int32))) → Af Z h5 ida .int n (fun q => .int (g5 q)) → Af Z h5 rka .long n (fun q => .long (q5 q)) → Af Z h5 rr .long 5 (fun q => .long (r5 q)) → Dn r5 B fi (fi 0) sN H g5 q5 (fi sN) (fr sN) → Ends p e below (Fini s (fun v h L => ∃ (ia ra : Addr) (n' : Nat) (z' : Int32) (fi' : Nat → Int32) (fr' : Nat → Int64), v = some (.int (fi 0)) ∧ Fr n0 L ∧ n0 ≤ h.size ∧ Exa Z h a "com/example/tiefast/tiefast/IdHeap" ∧ Fld Z h a "com/example/tiefast/tiefast/IdHeap" "ids" "[I" (.ref ia) ∧ Fld Z h a "com/example/tiefast/tiefast/IdHeap" "ranks" "[J" (.ref ra) ∧ Fld Z h a "com/example/tiefast/tiefast/IdHeap" "size" "I" (.int z') ∧ Af Z h ia .int n' (fun q => .int (fi' q)) ∧ Af Z h ra .long n' (fun q => .long (fr' q)) ∧ Af Z h rr .long 5 (fun q => .long (r5 q)) ∧ ra ≠ rr ∧ n0 ≤ ia ∧ n0 ≤ ra ∧ z'.toInt = ((sN : Nat) : Int) ∧ sN + 1 ≤ n' ∧ n' ≤ 8 ∧ HP r5 B sN fi' fr' ∧ ∀ k, k < sN → fi' k ≠ fi 0 ∧ ∃ j, j < sN + 1 ∧ fi' k = fi j) 0 0) T5 (mkF m 40 #[.val (.ref a), .val (.int (fi 0)), .val (.int (fi sN)), .val (.long (fr sN)), .second, .val (.int i5), .val (.int i6)] []) := by
    intro k
    induction k using Nat.strongRecOn with
    | _ k ih =>
      intro H i5 i6 T5 h5 L5 g5 q5 hk hH hHn hi5 hi6 X5 e5 N5 Z5 E5 Fi5 Fr5 Fs5 Ai5 Ar5 Ac5 dn5
      show Ends p e below _ T5 (mkF m 40 #[.val (.ref a), .val (.int (fi 0)), .val (.int (fi sN)), .val (.long (fr sN)), .second, .val (.int i5), .val (.int i6)] [])
      refine Ends.by (fun _ => XS.iload X5.here hx rfl (hb hby d8_40) rfl) ?_
      show Ends p e below _ T5 (mkF m 42 #[.val (.ref a), .val (.int (fi 0)), .val (.int (fi sN)), .val (.long (fr sN)), .second, .val (.int i5), .val (.int i6)] [(.int i6)])
      refine Ends.by (fun _ => XS.aloadN X5.here hx rfl (hb hby d8_42) rfl rfl) ?_
      show Ends p e below _ T5 (mkF m 43 #[.val (.ref a), .val (.int (fi 0)), .val (.int (fi sN)), .val (.long (fr sN)), .second, .val (.int i5), .val (.int i6)] [(.ref a), (.int i6)])
      obtain ⟨T7, X7, e7, st7⟩ := getF X5 hx hZ hown (host := "") (Or.inl (hw _ (List.mem_of_getElem? (i := 24) rfl))) Via.refl e5 Fs5 (g := (mkF m 43 #[.val (.ref a), .val (.int (fi 0)), .val (.int (fi sN)), .val (.long (fr sN)), .second, .val (.int i5), .val (.int i6)] [(.ref a), (.int i6)])) rfl rfl (hb hby d8_43)
      refine Ends.by st7 ?_
      show Ends p e below _ T7 (mkF m 46 #[.val (.ref a), .val (.int (fi 0)), .val (.int (fi sN)), .val (.long (fr sN)), .second, .val (.int i5), .val (.int i6)] [(.int (z - (1 : Int32))), (.int i6)])
      refine Ends.icmp X7 hx (hb hby d8_46) 141 (by decide) (by decide) (fun q => ?_) (fun q => ?_)
      · have c46 : ¬ (i6 < (z - (1 : Int32))) := own_ge.1 q
        show Ends p e below _ T7 (mkF m 141 #[.val (.ref a), .val (.int (fi 0)), .val (.int (fi sN)), .val (.long (fr sN)), .second, .val (.int i5), .val (.int i6)] [])
        refine Ends.by (fun _ => XS.aloadN X7.here hx rfl (hb hby d8_141) rfl rfl) ?_
        show Ends p e below _ T7 (mkF m 142 #[.val (.ref a), .val (.int (fi 0)), .val (.int (fi sN)), .val (.long (fr sN)), .second, .val (.int i5), .val (.int i6)] [(.ref a)])
        obtain ⟨T8, X8, e8, st8⟩ := getF X7 hx hZ hown (host := "") (Or.inl (hw _ (List.mem_of_getElem? (i := 14) rfl))) Via.refl e7 Fi5 (g := (mkF m 142 #[.val (.ref a), .val (.int (fi 0)), .val (.int (fi sN)), .val (.long (fr sN)), .second, .val (.int i5), .val (.int i6)] [(.ref a)])) rfl rfl (hb hby d8_142)
        refine Ends.by st8 ?_
        show Ends p e below _ T8 (mkF m 145 #[.val (.ref a), .val (.int (fi 0)), .val (.int (fi sN)), .val (.long (fr sN)), .second, .val (.int i5), .val (.int i6)] [(.ref ida)])
        refine Ends.by (fun _ => XS.iload X8.here hx rfl (hb hby d8_145) rfl) ?_
        show Ends p e below _ T8 (mkF m 147 #[.val (.ref a), .val (.int (fi 0)), .val (.int (fi sN)), .val (.long (fr sN)), .second, .val (.int i5), .val (.int i6)] [(.int i5), (.ref ida)])
        refine Ends.by (fun _ => XS.iloadN X8.here hx rfl (hb hby d8_147) rfl) ?_
        show Ends p e below _ T8 (mkF m 148 #[.val (.ref a), .val (.int (fi 0)), .val (.int (fi sN)), .val (.long (fr sN)), .second, .val (.int i5), .val (.int i6)] [(.int (fi sN)), (.int i5), (.ref ida)])
        refine Ends.stI X8 hx hZ e8 N5 gi Ai5 (k := H) hi5 hHn (hb hby d8_148) ?_
        intro T9 h9 L9 X9 e9 N9 W9 B9
        have C9 : Af Z h9 ida .int n (fun q => .int ((upd g5 H (fi sN)) q)) := B9.congr (fun q _ => own_updI g5 H _ q)
        have E_a_9 : Exa Z h9 a "com/example/tiefast/tiefast/IdHeap" := E5.wr W9
        have F_a_ids_9 : Fld Z h9 a "com/example/tiefast/tiefast/IdHeap" "ids" "[I" (.ref ida) := Fi5.other W9 (Or.inl (own_apart E5 Ai5 (hw _ (List.mem_of_getElem? (i := 1) rfl))))
        have F_a_ranks_9 : Fld Z h9 a "com/example/tiefast/tiefast/IdHeap" "ranks" "[J" (.ref rka) := Fr5.other W9 (Or.inl (own_apart E5 Ai5 (hw _ (List.mem_of_getElem? (i := 1) rfl))))
        have F_a_size_9 : Fld Z h9 a "com/example/tiefast/tiefast/IdHeap" "size" "I" (.int (z - (1 : Int32))) := Fs5.other W9 (Or.inl (own_apart E5 Ai5 (hw _ (List.mem_of_getElem? (i := 1) rfl))))
        have A_rka_9 : Af Z h9 rka .long n (fun q => .long (q5 q)) := Ar5.other W9 (own_tyne Ar5 Ai5 (by decide))
        have A_rr_9 : Af Z h9 rr .long 5 (fun q => .long (r5 q)) := Ac5.other W9 (own_tyne Ac5 Ai5 (by decide))
        have Z9 : n0 ≤ h9.size := Nat.le_trans Z5 (Nat.le_of_eq W9.size.symm)
        show Ends p e below _ T9 (mkF m 149 #[.val (.ref a), .val (.int (fi 0)), .val (.int (fi sN)), .val (.long (fr sN)), .second, .val (.int i5), .val (.int i6)] [])
        refine Ends.by (fun _ => XS.aloadN X9.here hx rfl (hb hby d8_149) rfl rfl) ?_
        show Ends p e below _ T9 (mkF m 150 #[.val (.ref a), .val (.int (fi 0)), .val (.int (fi sN)), .val (.long (fr sN)), .second, .val (.int i5), .val (.int i6)] [(.ref a)])
        obtain ⟨T10, X10, e10, st10⟩ := getF X9 hx hZ hown (host := "") (Or.inl (hw _ (List.mem_of_getElem? (i := 17) rfl))) Via.refl e9 F_a_ranks_9 (g := (mkF m 150 #[.val (.ref a), .val (.int (fi 0)), .val (.int (fi sN)), .val (.long (fr sN)), .second, .val (.int i5), .val (.int i6)] [(.ref a)])) rfl rfl (hb hby d8_150)
        refine Ends.by st10 ?_
        show Ends p e below _ T10 (mkF m 153 #[.val (.ref a), .val (.int (fi 0)), .val (.int (fi sN)), .val (.long (fr sN)), .second, .val (.int i5), .val (.int i6)] [(.ref rka)])
        refine Ends.by (fun _ => XS.iload X10.here hx rfl (hb hby d8_153) rfl) ?_
        show Ends p e below _ T10 (mkF m 155 #[.val (.ref a), .val (.int (fi 0)), .val (.int (fi sN)), .val (.long (fr sN)), .second, .val (.int i5), .val (.int i6)] [(.int i5), (.ref rka)])
        refine Ends.by (fun _ => XS.lloadN X10.here hx rfl (hb hby d8_155) rfl) ?_
        show Ends p e below _ T10 (mkF m 156 #[.val (.ref a), .val (.int (fi 0)), .val (.int (fi sN)), .val (.long (fr sN)), .second, .val (.int i5), .val (.int i6)] [(.long (fr sN)), (.int i5), (.ref rka)])
        refine Ends.stJ X10 hx hZ e10 N9 gr A_rka_9 (k := H) hi5 hHn (hb hby d8_156) ?_
        intro T11 h11 L11 X11 e11 N11 W11 B11
        have C11 : Af Z h11 rka .long n (fun q => .long ((upd q5 H (fr sN)) q)) := B11.congr (fun q _ => own_updL q5 H _ q)
        have E_a_11 : Exa Z h11 a "com/example/tiefast/tiefast/IdHeap" := E_a_9.wr W11
        have F_a_ids_11 : Fld Z h11 a "com/example/tiefast/tiefast/IdHeap" "ids" "[I" (.ref ida) := F_a_ids_9.other W11 (Or.inl (own_apart E_a_9 A_rka_9 (hw _ (List.mem_of_getElem? (i := 1) rfl))))
        have F_a_ranks_11 : Fld Z h11 a "com/example/tiefast/tiefast/IdHeap" "ranks" "[J" (.ref rka) := F_a_ranks_9.other W11 (Or.inl (own_apart E_a_9 A_rka_9 (hw _ (List.mem_of_getElem? (i := 1) rfl))))
        have F_a_size_11 : Fld Z h11 a "com/example/tiefast/tiefast/IdHeap" "size" "I" (.int (z - (1 : Int32))) := F_a_size_9.other W11 (Or.inl (own_apart E_a_9 A_rka_9 (hw _ (List.mem_of_getElem? (i := 1) rfl))))
        have A_rr_11 : Af Z h11 rr .long 5 (fun q => .long (r5 q)) := A_rr_9.other W11 (Ne.symm ne0)
        have A_ida_11 : Af Z h11 ida .int n (fun q => .int ((upd g5 H (fi sN)) q)) := C9.other W11 (own_tyne C9 A_rka_9 (by decide))
        have Z11 : n0 ≤ h11.size := Nat.le_trans Z9 (Nat.le_of_eq W11.size.symm)
        show Ends p e below _ T11 (mkF m 157 #[.val (.ref a), .val (.int (fi 0)), .val (.int (fi sN)), .val (.long (fr sN)), .second, .val (.int i5), .val (.int i6)] [])
        refine Ends.by (fun _ => XS.iloadN X11.here hx rfl (hb hby d8_157) rfl) ?_
        show Ends p e below _ T11 (mkF m 158 #[.val (.ref a), .val (.int (fi 0)), .val (.int (fi sN)), .val (.long (fr sN)), .second, .val (.int i5), .val (.int i6)] [(.int (fi 0))])
        have fin := dn5.fin (own_none (own_gen hi6 hz1 c46)) (own_last hp)
        exact Ends.retI X11 hx hlk hret (hb hby d8_158) (by decide) (by decide) (by rw [e11]; exact ⟨ida, rka, n, _, (upd g5 H (fi sN)), (upd q5 H (fr sN)), rfl, N11, Z11, E_a_11, F_a_ids_11, F_a_ranks_11, F_a_size_11, A_ida_11, C11, A_rr_11, ne0, gi, gr, hz1, hsn, hn8, fin.1, fin.2⟩)
      · have c46 : i6 < (z - (1 : Int32)) := own_ge.2 q
        show Ends p e below _ T7 (mkF m 49 #[.val (.ref a), .val (.int (fi 0)), .val (.int (fi sN)), .val (.long (fr sN)), .second, .val (.int i5), .val (.int i6)] [])
        have hc1 : 2 * H + 1 < sN := own_ltn hi6 hz1 c46
        have J83 : ∀ (cc : Nat) (j6 : Int32) (T6 : State), j6.toInt = (cc : Int) → cc < sN → (cc - 1) / 2 = H → 0 < cc → (∀ k, 0 < k → k < sN → (k - 1) / 2 = H → (q5 cc).toInt ≤ (q5 k).toInt) → Stand p l e ({ frames := 0, cells := 0, slots := 0, locals := 0 } : Room) s m #[(.ref a)] below meth c T6 L5 0 0 → T6.heap = h5 → Ends p e below (Fini s (fun v h L => ∃ (ia ra : Addr) (n' : Nat) (z' : Int32) (fi' : Nat → Int32) (fr' : Nat → Int64), v = some (.int (fi 0)) ∧ Fr n0 L ∧ n0 ≤ h.size ∧ Exa Z h a "com/example/tiefast/tiefast/IdHeap" ∧ Fld Z h a "com/example/tiefast/tiefast/IdHeap" "ids" "[I" (.ref ia) ∧ Fld Z h a "com/example/tiefast/tiefast/IdHeap" "ranks" "[J" (.ref ra) ∧ Fld Z h a "com/example/tiefast/tiefast/IdHeap" "size" "I" (.int z') ∧ Af Z h ia .int n' (fun q => .int (fi' q)) ∧ Af Z h ra .long n' (fun q => .long (fr' q)) ∧ Af Z h rr .long 5 (fun q => .long (r5 q)) ∧ ra ≠ rr ∧ n0 ≤ ia ∧ n0 ≤ ra ∧ z'.toInt = ((sN : Nat) : Int) ∧ sN + 1 ≤ n' ∧ n' ≤ 8 ∧ HP r5 B sN fi' fr' ∧ ∀ k, k < sN → fi' k ≠ fi 0 ∧ ∃ j, j < sN + 1 ∧ fi' k = fi j) 0 0) T6 (mkF m 83 #[.val (.ref a), .val (.int (fi 0)), .val (.int (fi sN)), .val (.long (fr sN)), .second, .val (.int i5), .val (.int j6)] []) := by
          intro cc j6 T6 hj6 hc2 hpar hc0 hmin X6 e6
          show Ends p e below _ T6 (mkF m 83 #[.val (.ref a), .val (.int (fi 0)), .val (.int (fi sN)), .val (.long (fr sN)), .second, .val (.int i5), .val (.int j6)] [])
          refine Ends.by (fun _ => XS.aloadN X6.here hx rfl (hb hby d8_83) rfl rfl) ?_
          show Ends p e below _ T6 (mkF m 84 #[.val (.ref a), .val (.int (fi 0)), .val (.int (fi sN)), .val (.long (fr sN)), .second, .val (.int i5), .val (.int j6)] [(.ref a)])
          obtain ⟨T12, X12, e12, st12⟩ := getF X6 hx hZ hown (host := "") (Or.inl (hw _ (List.mem_of_getElem? (i := 17) rfl))) Via.refl e6 Fr5 (g := (mkF m 84 #[.val (.ref a), .val (.int (fi 0)), .val (.int (fi sN)), .val (.long (fr sN)), .second, .val (.int i5), .val (.int j6)] [(.ref a)])) rfl rfl (hb hby d8_84)
          refine Ends.by st12 ?_
          show Ends p e below _ T12 (mkF m 87 #[.val (.ref a), .val (.int (fi 0)), .val (.int (fi sN)), .val (.long (fr sN)), .second, .val (.int i5), .val (.int j6)] [(.ref rka)])
          refine Ends.by (fun _ => XS.iload X12.here hx rfl (hb hby d8_87) rfl) ?_
          show Ends p e below _ T12 (mkF m 89 #[.val (.ref a), .val (.int (fi 0)), .val (.int (fi sN)), .val (.long (fr sN)), .second, .val (.int i5), .val (.int j6)] [(.int j6), (.ref rka)])
          refine Ends.ldJ X12 hx hZ e12 Ar5 (k := cc) hj6 (by omega) (v := (.long (q5 cc))) rfl (hb hby d8_89) ?_
          show Ends p e below _ T12 (mkF m 90 #[.val (.ref a), .val (.int (fi 0)), .val (.int (fi sN)), .val (.long (fr sN)), .second, .val (.int i5), .val (.int j6)] [(.long (q5 cc))])
          refine Ends.by (fun _ => XS.lloadN X12.here hx rfl (hb hby d8_90) rfl) ?_
          show Ends p e below _ T12 (mkF m 91 #[.val (.ref a), .val (.int (fi 0)), .val (.int (fi sN)), .val (.long (fr sN)), .second, .val (.int i5), .val (.int j6)] [(.long (fr sN)), (.long (q5 cc))])
          refine Ends.by (fun _ => XS.lcmp X12.here hx rfl (hb hby d8_91) rfl) ?_
          show Ends p e below _ T12 (mkF m 92 #[.val (.ref a), .val (.int (fi 0)), .val (.int (fi sN)), .val (.long (fr sN)), .second, .val (.int i5), .val (.int j6)] [(.int (lcmpW (q5 cc) (fr sN)))])
          refine Ends.ifc X12 hx (hb hby d8_92) 98 (by decide) (by decide) (fun q => ?_) (fun q => ?_)
          · have c92 : (lcmpW (q5 cc) (fr sN)) < (0 : Int32) := own_lt.1 q
            show Ends p e below _ T12 (mkF m 98 #[.val (.ref a), .val (.int (fi 0)), .val (.int (fi sN)), .val (.long (fr sN)), .second, .val (.int i5), .val (.int j6)] [])
            refine Ends.by (fun _ => XS.aloadN X12.here hx rfl (hb hby d8_98) rfl rfl) ?_
            show Ends p e below _ T12 (mkF m 99 #[.val (.ref a), .val (.int (fi 0)), .val (.int (fi sN)), .val (.long (fr sN)), .second, .val (.int i5), .val (.int j6)] [(.ref a)])
            obtain ⟨T13, X13, e13, st13⟩ := getF X12 hx hZ hown (host := "") (Or.inl (hw _ (List.mem_of_getElem? (i := 14) rfl))) Via.refl e12 Fi5 (g := (mkF m 99 #[.val (.ref a), .val (.int (fi 0)), .val (.int (fi sN)), .val (.long (fr sN)), .second, .val (.int i5), .val (.int j6)] [(.ref a)])) rfl rfl (hb hby d8_99)
            refine Ends.by st13 ?_
            show Ends p e below _ T13 (mkF m 102 #[.val (.ref a), .val (.int (fi 0)), .val (.int (fi sN)), .val (.long (fr sN)), .second, .val (.int i5), .val (.int j6)] [(.ref ida)])
            refine Ends.by (fun _ => XS.iload X13.here hx rfl (hb hby d8_102) rfl) ?_
            show Ends p e below _ T13 (mkF m 104 #[.val (.ref a), .val (.int (fi 0)), .val (.int (fi sN)), .val (.long (fr sN)), .second, .val (.int i5), .val (.int j6)] [(.int i5), (.ref ida)])
            refine Ends.by (fun _ => XS.aloadN X13.here hx rfl (hb hby d8_104) rfl rfl) ?_
            show Ends p e below _ T13 (mkF m 105 #[.val (.ref a), .val (.int (fi 0)), .val (.int (fi sN)), .val (.long (fr sN)), .second, .val (.int i5), .val (.int j6)] [(.ref a), (.int i5), (.ref ida)])
            obtain ⟨T14, X14, e14, st14⟩ := getF X13 hx hZ hown (host := "") (Or.inl (hw _ (List.mem_of_getElem? (i := 14) rfl))) Via.refl e13 Fi5 (g := (mkF m 105 #[.val (.ref a), .val (.int (fi 0)), .val (.int (fi sN)), .val (.long (fr sN)), .second, .val (.int i5), .val (.int j6)] [(.ref a), (.int i5), (.ref ida)])) rfl rfl (hb hby d8_105)
            refine Ends.by st14 ?_
            show Ends p e below _ T14 (mkF m 108 #[.val (.ref a), .val (.int (fi 0)), .val (.int (fi sN)), .val (.long (fr sN)), .second, .val (.int i5), .val (.int j6)] [(.ref ida), (.int i5), (.ref ida)])
            refine Ends.by (fun _ => XS.iload X14.here hx rfl (hb hby d8_108) rfl) ?_
            show Ends p e below _ T14 (mkF m 110 #[.val (.ref a), .val (.int (fi 0)), .val (.int (fi sN)), .val (.long (fr sN)), .second, .val (.int i5), .val (.int j6)] [(.int j6), (.ref ida), (.int i5), (.ref ida)])
            refine Ends.ldI X14 hx hZ e14 Ai5 (k := cc) hj6 (by omega) (v := (.int (g5 cc))) rfl (hb hby d8_110) ?_
            show Ends p e below _ T14 (mkF m 111 #[.val (.ref a), .val (.int (fi 0)), .val (.int (fi sN)), .val (.long (fr sN)), .second, .val (.int i5), .val (.int j6)] [(.int (g5 cc)), (.int i5), (.ref ida)])
            refine Ends.stI X14 hx hZ e14 N5 gi Ai5 (k := H) hi5 hHn (hb hby d8_111) ?_
            intro T15 h15 L15 X15 e15 N15 W15 B15
            have C15 : Af Z h15 ida .int n (fun q => .int ((upd g5 H (g5 cc)) q)) := B15.congr (fun q _ => own_updI g5 H _ q)
            have E_a_15 : Exa Z h15 a "com/example/tiefast/tiefast/IdHeap" := E5.wr W15
            have F_a_ids_15 : Fld Z h15 a "com/example/tiefast/tiefast/IdHeap" "ids" "[I" (.ref ida) := Fi5.other W15 (Or.inl (own_apart E5 Ai5 (hw _ (List.mem_of_getElem? (i := 1) rfl))))
            have F_a_ranks_15 : Fld Z h15 a "com/example/tiefast/tiefast/IdHeap" "ranks" "[J" (.ref rka) := Fr5.other W15 (Or.inl (own_apart E5 Ai5 (hw _ (List.mem_of_getElem? (i := 1) rfl))))
            have F_a_size_15 : Fld Z h15 a "com/example/tiefast/tiefast/IdHeap" "size" "I" (.int (z - (1 : Int32))) := Fs5.other W15 (Or.inl (own_apart E5 Ai5 (hw _ (List.mem_of_getElem? (i := 1) rfl))))
            have A_rka_15 : Af Z h15 rka .long n (fun q => .long (q5 q)) := Ar5.other W15 (own_tyne Ar5 Ai5 (by decide))
            have A_rr_15 : Af Z h15 rr .long 5 (fun q => .long (r5 q)) := Ac5.other W15 (own_tyne Ac5 Ai5 (by decide))
            have Z15 : n0 ≤ h15.size := Nat.le_trans Z5 (Nat.le_of_eq W15.size.symm)
            show Ends p e below _ T15 (mkF m 112 #[.val (.ref a), .val (.int (fi 0)), .val (.int (fi sN)), .val (.long (fr sN)), .second, .val (.int i5), .val (.int j6)] [])
            refine Ends.by (fun _ => XS.aloadN X15.here hx rfl (hb hby d8_112) rfl rfl) ?_
            show Ends p e below _ T15 (mkF m 113 #[.val (.ref a), .val (.int (fi 0)), .val (.int (fi sN)), .val (.long (fr sN)), .second, .val (.int i5), .val (.int j6)] [(.ref a)])
            obtain ⟨T16, X16, e16, st16⟩ := getF X15 hx hZ hown (host := "") (Or.inl (hw _ (List.mem_of_getElem? (i := 17) rfl))) Via.refl e15 F_a_ranks_15 (g := (mkF m 113 #[.val (.ref a), .val (.int (fi 0)), .val (.int (fi sN)), .val (.long (fr sN)), .second, .val (.int i5), .val (.int j6)] [(.ref a)])) rfl rfl (hb hby d8_113)
            refine Ends.by st16 ?_
            show Ends p e below _ T16 (mkF m 116 #[.val (.ref a), .val (.int (fi 0)), .val (.int (fi sN)), .val (.long (fr sN)), .second, .val (.int i5), .val (.int j6)] [(.ref rka)])
            refine Ends.by (fun _ => XS.iload X16.here hx rfl (hb hby d8_116) rfl) ?_
            show Ends p e below _ T16 (mkF m 118 #[.val (.ref a), .val (.int (fi 0)), .val (.int (fi sN)), .val (.long (fr sN)), .second, .val (.int i5), .val (.int j6)] [(.int i5), (.ref rka)])
            refine Ends.by (fun _ => XS.aloadN X16.here hx rfl (hb hby d8_118) rfl rfl) ?_
            show Ends p e below _ T16 (mkF m 119 #[.val (.ref a), .val (.int (fi 0)), .val (.int (fi sN)), .val (.long (fr sN)), .second, .val (.int i5), .val (.int j6)] [(.ref a), (.int i5), (.ref rka)])
            obtain ⟨T17, X17, e17, st17⟩ := getF X16 hx hZ hown (host := "") (Or.inl (hw _ (List.mem_of_getElem? (i := 17) rfl))) Via.refl e16 F_a_ranks_15 (g := (mkF m 119 #[.val (.ref a), .val (.int (fi 0)), .val (.int (fi sN)), .val (.long (fr sN)), .second, .val (.int i5), .val (.int j6)] [(.ref a), (.int i5), (.ref rka)])) rfl rfl (hb hby d8_119)
            refine Ends.by st17 ?_
            show Ends p e below _ T17 (mkF m 122 #[.val (.ref a), .val (.int (fi 0)), .val (.int (fi sN)), .val (.long (fr sN)), .second, .val (.int i5), .val (.int j6)] [(.ref rka), (.int i5), (.ref rka)])
            refine Ends.by (fun _ => XS.iload X17.here hx rfl (hb hby d8_122) rfl) ?_
            show Ends p e below _ T17 (mkF m 124 #[.val (.ref a), .val (.int (fi 0)), .val (.int (fi sN)), .val (.long (fr sN)), .second, .val (.int i5), .val (.int j6)] [(.int j6), (.ref rka), (.int i5), (.ref rka)])
            refine Ends.ldJ X17 hx hZ e17 A_rka_15 (k := cc) hj6 (by omega) (v := (.long (q5 cc))) rfl (hb hby d8_124) ?_
            show Ends p e below _ T17 (mkF m 125 #[.val (.ref a), .val (.int (fi 0)), .val (.int (fi sN)), .val (.long (fr sN)), .second, .val (.int i5), .val (.int j6)] [(.long (q5 cc)), (.int i5), (.ref rka)])
            refine Ends.stJ X17 hx hZ e17 N15 gr A_rka_15 (k := H) hi5 hHn (hb hby d8_125) ?_
            intro T18 h18 L18 X18 e18 N18 W18 B18
            have C18 : Af Z h18 rka .long n (fun q => .long ((upd q5 H (q5 cc)) q)) := B18.congr (fun q _ => own_updL q5 H _ q)
            have E_a_18 : Exa Z h18 a "com/example/tiefast/tiefast/IdHeap" := E_a_15.wr W18
            have F_a_ids_18 : Fld Z h18 a "com/example/tiefast/tiefast/IdHeap" "ids" "[I" (.ref ida) := F_a_ids_15.other W18 (Or.inl (own_apart E_a_15 A_rka_15 (hw _ (List.mem_of_getElem? (i := 1) rfl))))
            have F_a_ranks_18 : Fld Z h18 a "com/example/tiefast/tiefast/IdHeap" "ranks" "[J" (.ref rka) := F_a_ranks_15.other W18 (Or.inl (own_apart E_a_15 A_rka_15 (hw _ (List.mem_of_getElem? (i := 1) rfl))))
            have F_a_size_18 : Fld Z h18 a "com/example/tiefast/tiefast/IdHeap" "size" "I" (.int (z - (1 : Int32))) := F_a_size_15.other W18 (Or.inl (own_apart E_a_15 A_rka_15 (hw _ (List.mem_of_getElem? (i := 1) rfl))))
            have A_rr_18 : Af Z h18 rr .long 5 (fun q => .long (r5 q)) := A_rr_15.other W18 (Ne.symm ne0)
            have A_ida_18 : Af Z h18 ida .int n (fun q => .int ((upd g5 H (g5 cc)) q)) := C15.other W18 (own_tyne C15 A_rka_15 (by decide))
            have Z18 : n0 ≤ h18.size := Nat.le_trans Z15 (Nat.le_of_eq W18.size.symm)
            show Ends p e below _ T18 (mkF m 126 #[.val (.ref a), .val (.int (fi 0)), .val (.int (fi sN)), .val (.long (fr sN)), .second, .val (.int i5), .val (.int j6)] [])
            refine Ends.by (fun _ => XS.iload X18.here hx rfl (hb hby d8_126) rfl) ?_
            show Ends p e below _ T18 (mkF m 128 #[.val (.ref a), .val (.int (fi 0)), .val (.int (fi sN)), .val (.long (fr sN)), .second, .val (.int i5), .val (.int j6)] [(.int j6)])
            refine Ends.by (fun _ => XS.istore X18.here hx rfl (hb hby d8_128) rfl (l' := #[.val (.ref a), .val (.int (fi 0)), .val (.int (fi sN)), .val (.long (fr sN)), .second, .val (.int j6), .val (.int j6)]) rfl) ?_
            show Ends p e below _ T18 (mkF m 130 #[.val (.ref a), .val (.int (fi 0)), .val (.int (fi sN)), .val (.long (fr sN)), .second, .val (.int j6), .val (.int j6)] [])
            refine Ends.by (fun _ => XS.iconst X18.here hx rfl (hb hby d8_130)) ?_
            show Ends p e below _ T18 (mkF m 131 #[.val (.ref a), .val (.int (fi 0)), .val (.int (fi sN)), .val (.long (fr sN)), .second, .val (.int j6), .val (.int j6)] [(.int (2 : Int32))])
            refine Ends.by (fun _ => XS.iload X18.here hx rfl (hb hby d8_131) rfl) ?_
            show Ends p e below _ T18 (mkF m 133 #[.val (.ref a), .val (.int (fi 0)), .val (.int (fi sN)), .val (.long (fr sN)), .second, .val (.int j6), .val (.int j6)] [(.int j6), (.int (2 : Int32))])
            refine Ends.by (fun _ => XS.imul X18.here hx rfl (hb hby d8_133) rfl) ?_
            show Ends p e below _ T18 (mkF m 134 #[.val (.ref a), .val (.int (fi 0)), .val (.int (fi sN)), .val (.long (fr sN)), .second, .val (.int j6), .val (.int j6)] [(.int ((2 : Int32) * j6))])
            refine Ends.by (fun _ => XS.iconst X18.here hx rfl (hb hby d8_134)) ?_
            show Ends p e below _ T18 (mkF m 135 #[.val (.ref a), .val (.int (fi 0)), .val (.int (fi sN)), .val (.long (fr sN)), .second, .val (.int j6), .val (.int j6)] [(.int (1 : Int32)), (.int ((2 : Int32) * j6))])
            refine Ends.by (fun _ => XS.iadd X18.here hx rfl (hb hby d8_135) rfl) ?_
            show Ends p e below _ T18 (mkF m 136 #[.val (.ref a), .val (.int (fi 0)), .val (.int (fi sN)), .val (.long (fr sN)), .second, .val (.int j6), .val (.int j6)] [(.int (((2 : Int32) * j6) + (1 : Int32)))])
            refine Ends.by (fun _ => XS.istore X18.here hx rfl (hb hby d8_136) rfl (l' := #[.val (.ref a), .val (.int (fi 0)), .val (.int (fi sN)), .val (.long (fr sN)), .second, .val (.int j6), .val (.int (((2 : Int32) * j6) + (1 : Int32)))]) rfl) ?_
            show Ends p e below _ T18 (mkF m 138 #[.val (.ref a), .val (.int (fi 0)), .val (.int (fi sN)), .val (.long (fr sN)), .second, .val (.int j6), .val (.int (((2 : Int32) * j6) + (1 : Int32)))] [])
            refine Ends.by (fun _ => XS.goto X18.here hx rfl (pc0 := 138) (pc' := 40) rfl (hb hby d8_138) (by decide) (by decide)) ?_
            show Ends p e below _ T18 (mkF m 40 #[.val (.ref a), .val (.int (fi 0)), .val (.int (fi sN)), .val (.long (fr sN)), .second, .val (.int j6), .val (.int (((2 : Int32) * j6) + (1 : Int32)))] [])
            exact ih (100 - cc) (by omega) cc _ _ _ _ _ _ _ rfl (by omega) (by omega) hj6 (own_child hj6 (by omega)) X18 e18 N18 Z18 E_a_18 F_a_ids_18 F_a_ranks_18 F_a_size_18 A_ida_18 C18 A_rr_18 (dn5.move hc2 hpar hc0 (own_lw.mp c92) hmin)
          · have c92 : ¬ ((lcmpW (q5 cc) (fr sN)) < (0 : Int32)) := own_lt.2 q
            show Ends p e below _ T12 (mkF m 95 #[.val (.ref a), .val (.int (fi 0)), .val (.int (fi sN)), .val (.long (fr sN)), .second, .val (.int i5), .val (.int j6)] [])
            refine Ends.by (fun _ => XS.goto X12.here hx rfl (pc0 := 95) (pc' := 141) rfl (hb hby d8_95) (by decide) (by decide)) ?_
            show Ends p e below _ T12 (mkF m 141 #[.val (.ref a), .val (.int (fi 0)), .val (.int (fi sN)), .val (.long (fr sN)), .second, .val (.int i5), .val (.int j6)] [])
            refine Ends.by (fun _ => XS.aloadN X12.here hx rfl (hb hby d8_141) rfl rfl) ?_
            show Ends p e below _ T12 (mkF m 142 #[.val (.ref a), .val (.int (fi 0)), .val (.int (fi sN)), .val (.long (fr sN)), .second, .val (.int i5), .val (.int j6)] [(.ref a)])
            obtain ⟨T19, X19, e19, st19⟩ := getF X12 hx hZ hown (host := "") (Or.inl (hw _ (List.mem_of_getElem? (i := 14) rfl))) Via.refl e12 Fi5 (g := (mkF m 142 #[.val (.ref a), .val (.int (fi 0)), .val (.int (fi sN)), .val (.long (fr sN)), .second, .val (.int i5), .val (.int j6)] [(.ref a)])) rfl rfl (hb hby d8_142)
            refine Ends.by st19 ?_
            show Ends p e below _ T19 (mkF m 145 #[.val (.ref a), .val (.int (fi 0)), .val (.int (fi sN)), .val (.long (fr sN)), .second, .val (.int i5), .val (.int j6)] [(.ref ida)])
            refine Ends.by (fun _ => XS.iload X19.here hx rfl (hb hby d8_145) rfl) ?_
            show Ends p e below _ T19 (mkF m 147 #[.val (.ref a), .val (.int (fi 0)), .val (.int (fi sN)), .val (.long (fr sN)), .second, .val (.int i5), .val (.int j6)] [(.int i5), (.ref ida)])
            refine Ends.by (fun _ => XS.iloadN X19.here hx rfl (hb hby d8_147) rfl) ?_
            show Ends p e below _ T19 (mkF m 148 #[.val (.ref a), .val (.int (fi 0)), .val (.int (fi sN)), .val (.long (fr sN)), .second, .val (.int i5), .val (.int j6)] [(.int (fi sN)), (.int i5), (.ref ida)])
            refine Ends.stI X19 hx hZ e19 N5 gi Ai5 (k := H) hi5 hHn (hb hby d8_148) ?_
            intro T20 h20 L20 X20 e20 N20 W20 B20
            have C20 : Af Z h20 ida .int n (fun q => .int ((upd g5 H (fi sN)) q)) := B20.congr (fun q _ => own_updI g5 H _ q)
            have E_a_20 : Exa Z h20 a "com/example/tiefast/tiefast/IdHeap" := E5.wr W20
            have F_a_ids_20 : Fld Z h20 a "com/example/tiefast/tiefast/IdHeap" "ids" "[I" (.ref ida) := Fi5.other W20 (Or.inl (own_apart E5 Ai5 (hw _ (List.mem_of_getElem? (i := 1) rfl))))
            have F_a_ranks_20 : Fld Z h20 a "com/example/tiefast/tiefast/IdHeap" "ranks" "[J" (.ref rka) := Fr5.other W20 (Or.inl (own_apart E5 Ai5 (hw _ (List.mem_of_getElem? (i := 1) rfl))))
            have F_a_size_20 : Fld Z h20 a "com/example/tiefast/tiefast/IdHeap" "size" "I" (.int (z - (1 : Int32))) := Fs5.other W20 (Or.inl (own_apart E5 Ai5 (hw _ (List.mem_of_getElem? (i := 1) rfl))))
            have A_rka_20 : Af Z h20 rka .long n (fun q => .long (q5 q)) := Ar5.other W20 (own_tyne Ar5 Ai5 (by decide))
            have A_rr_20 : Af Z h20 rr .long 5 (fun q => .long (r5 q)) := Ac5.other W20 (own_tyne Ac5 Ai5 (by decide))
            have Z20 : n0 ≤ h20.size := Nat.le_trans Z5 (Nat.le_of_eq W20.size.symm)
            show Ends p e below _ T20 (mkF m 149 #[.val (.ref a), .val (.int (fi 0)), .val (.int (fi sN)), .val (.long (fr sN)), .second, .val (.int i5), .val (.int j6)] [])
            refine Ends.by (fun _ => XS.aloadN X20.here hx rfl (hb hby d8_149) rfl rfl) ?_
            show Ends p e below _ T20 (mkF m 150 #[.val (.ref a), .val (.int (fi 0)), .val (.int (fi sN)), .val (.long (fr sN)), .second, .val (.int i5), .val (.int j6)] [(.ref a)])
            obtain ⟨T21, X21, e21, st21⟩ := getF X20 hx hZ hown (host := "") (Or.inl (hw _ (List.mem_of_getElem? (i := 17) rfl))) Via.refl e20 F_a_ranks_20 (g := (mkF m 150 #[.val (.ref a), .val (.int (fi 0)), .val (.int (fi sN)), .val (.long (fr sN)), .second, .val (.int i5), .val (.int j6)] [(.ref a)])) rfl rfl (hb hby d8_150)
            refine Ends.by st21 ?_
            show Ends p e below _ T21 (mkF m 153 #[.val (.ref a), .val (.int (fi 0)), .val (.int (fi sN)), .val (.long (fr sN)), .second, .val (.int i5), .val (.int j6)] [(.ref rka)])
            refine Ends.by (fun _ => XS.iload X21.here hx rfl (hb hby d8_153) rfl) ?_
            show Ends p e below _ T21 (mkF m 155 #[.val (.ref a), .val (.int (fi 0)), .val (.int (fi sN)), .val (.long (fr sN)), .second, .val (.int i5), .val (.int j6)] [(.int i5), (.ref rka)])
            refine Ends.by (fun _ => XS.lloadN X21.here hx rfl (hb hby d8_155) rfl) ?_
            show Ends p e below _ T21 (mkF m 156 #[.val (.ref a), .val (.int (fi 0)), .val (.int (fi sN)), .val (.long (fr sN)), .second, .val (.int i5), .val (.int j6)] [(.long (fr sN)), (.int i5), (.ref rka)])
            refine Ends.stJ X21 hx hZ e21 N20 gr A_rka_20 (k := H) hi5 hHn (hb hby d8_156) ?_
            intro T22 h22 L22 X22 e22 N22 W22 B22
            have C22 : Af Z h22 rka .long n (fun q => .long ((upd q5 H (fr sN)) q)) := B22.congr (fun q _ => own_updL q5 H _ q)
            have E_a_22 : Exa Z h22 a "com/example/tiefast/tiefast/IdHeap" := E_a_20.wr W22
            have F_a_ids_22 : Fld Z h22 a "com/example/tiefast/tiefast/IdHeap" "ids" "[I" (.ref ida) := F_a_ids_20.other W22 (Or.inl (own_apart E_a_20 A_rka_20 (hw _ (List.mem_of_getElem? (i := 1) rfl))))
            have F_a_ranks_22 : Fld Z h22 a "com/example/tiefast/tiefast/IdHeap" "ranks" "[J" (.ref rka) := F_a_ranks_20.other W22 (Or.inl (own_apart E_a_20 A_rka_20 (hw _ (List.mem_of_getElem? (i := 1) rfl))))
            have F_a_size_22 : Fld Z h22 a "com/example/tiefast/tiefast/IdHeap" "size" "I" (.int (z - (1 : Int32))) := F_a_size_20.other W22 (Or.inl (own_apart E_a_20 A_rka_20 (hw _ (List.mem_of_getElem? (i := 1) rfl))))
            have A_rr_22 : Af Z h22 rr .long 5 (fun q => .long (r5 q)) := A_rr_20.other W22 (Ne.symm ne0)
            have A_ida_22 : Af Z h22 ida .int n (fun q => .int ((upd g5 H (fi sN)) q)) := C20.other W22 (own_tyne C20 A_rka_20 (by decide))
            have Z22 : n0 ≤ h22.size := Nat.le_trans Z20 (Nat.le_of_eq W22.size.symm)
            show Ends p e below _ T22 (mkF m 157 #[.val (.ref a), .val (.int (fi 0)), .val (.int (fi sN)), .val (.long (fr sN)), .second, .val (.int i5), .val (.int j6)] [])
            refine Ends.by (fun _ => XS.iloadN X22.here hx rfl (hb hby d8_157) rfl) ?_
            show Ends p e below _ T22 (mkF m 158 #[.val (.ref a), .val (.int (fi 0)), .val (.int (fi sN)), .val (.long (fr sN)), .second, .val (.int i5), .val (.int j6)] [(.int (fi 0))])
            have fin := dn5.fin (fun k k0 k1 k2 => Int.le_trans (Int.not_lt.mp (fun y => c92 (own_lw.mpr y))) (hmin k k0 k1 k2)) (own_last hp)
            exact Ends.retI X22 hx hlk hret (hb hby d8_158) (by decide) (by decide) (by rw [e22]; exact ⟨ida, rka, n, _, (upd g5 H (fi sN)), (upd q5 H (fr sN)), rfl, N22, Z22, E_a_22, F_a_ids_22, F_a_ranks_22, F_a_size_22, A_ida_22, C22, A_rr_22, ne0, gi, gr, hz1, hsn, hn8, fin.1, fin.2⟩)
        refine Ends.by (fun _ => XS.iload X7.here hx rfl (hb hby d8_49) rfl) ?_
        show Ends p e below _ T7 (mkF m 51 #[.val (.ref a), .val (.int (fi 0)), .val (.int (fi sN)), .val (.long (fr sN)), .second, .val (.int i5), .val (.int i6)] [(.int i6)])
        refine Ends.by (fun _ => XS.iconst X7.here hx rfl (hb hby d8_51)) ?_
        show Ends p e below _ T7 (mkF m 52 #[.val (.ref a), .val (.int (fi 0)), .val (.int (fi sN)), .val (.long (fr sN)), .second, .val (.int i5), .val (.int i6)] [(.int (1 : Int32)), (.int i6)])
        refine Ends.by (fun _ => XS.iadd X7.here hx rfl (hb hby d8_52) rfl) ?_
        show Ends p e below _ T7 (mkF m 53 #[.val (.ref a), .val (.int (fi 0)), .val (.int (fi sN)), .val (.long (fr sN)), .second, .val (.int i5), .val (.int i6)] [(.int (i6 + (1 : Int32)))])
        refine Ends.by (fun _ => XS.aloadN X7.here hx rfl (hb hby d8_53) rfl rfl) ?_
        show Ends p e below _ T7 (mkF m 54 #[.val (.ref a), .val (.int (fi 0)), .val (.int (fi sN)), .val (.long (fr sN)), .second, .val (.int i5), .val (.int i6)] [(.ref a), (.int (i6 + (1 : Int32)))])
        obtain ⟨T23, X23, e23, st23⟩ := getF X7 hx hZ hown (host := "") (Or.inl (hw _ (List.mem_of_getElem? (i := 24) rfl))) Via.refl e7 Fs5 (g := (mkF m 54 #[.val (.ref a), .val (.int (fi 0)), .val (.int (fi sN)), .val (.long (fr sN)), .second, .val (.int i5), .val (.int i6)] [(.ref a), (.int (i6 + (1 : Int32)))])) rfl rfl (hb hby d8_54)
        refine Ends.by st23 ?_
        show Ends p e below _ T23 (mkF m 57 #[.val (.ref a), .val (.int (fi 0)), .val (.int (fi sN)), .val (.long (fr sN)), .second, .val (.int i5), .val (.int i6)] [(.int (z - (1 : Int32))), (.int (i6 + (1 : Int32)))])
        refine Ends.icmp X23 hx (hb hby d8_57) 83 (by decide) (by decide) (fun q => ?_) (fun q => ?_)
        · have c57 : ¬ ((i6 + (1 : Int32)) < (z - (1 : Int32))) := own_ge.1 q
          show Ends p e below _ T23 (mkF m 83 #[.val (.ref a), .val (.int (fi 0)), .val (.int (fi sN)), .val (.long (fr sN)), .second, .val (.int i5), .val (.int i6)] [])
          exact J83 (2 * H + 1) _ _ hi6 hc1 (by omega) (by omega) (own_one (own_gen2 hi6 hz1 c57)) X23 e23
        · have c57 : (i6 + (1 : Int32)) < (z - (1 : Int32)) := own_ge.2 q
          show Ends p e below _ T23 (mkF m 60 #[.val (.ref a), .val (.int (fi 0)), .val (.int (fi sN)), .val (.long (fr sN)), .second, .val (.int i5), .val (.int i6)] [])
          refine Ends.by (fun _ => XS.aloadN X23.here hx rfl (hb hby d8_60) rfl rfl) ?_
          show Ends p e below _ T23 (mkF m 61 #[.val (.ref a), .val (.int (fi 0)), .val (.int (fi sN)), .val (.long (fr sN)), .second, .val (.int i5), .val (.int i6)] [(.ref a)])
          obtain ⟨T24, X24, e24, st24⟩ := getF X23 hx hZ hown (host := "") (Or.inl (hw _ (List.mem_of_getElem? (i := 17) rfl))) Via.refl e23 Fr5 (g := (mkF m 61 #[.val (.ref a), .val (.int (fi 0)), .val (.int (fi sN)), .val (.long (fr sN)), .second, .val (.int i5), .val (.int i6)] [(.ref a)])) rfl rfl (hb hby d8_61)
          refine Ends.by st24 ?_
          show Ends p e below _ T24 (mkF m 64 #[.val (.ref a), .val (.int (fi 0)), .val (.int (fi sN)), .val (.long (fr sN)), .second, .val (.int i5), .val (.int i6)] [(.ref rka)])
          refine Ends.by (fun _ => XS.iload X24.here hx rfl (hb hby d8_64) rfl) ?_
          show Ends p e below _ T24 (mkF m 66 #[.val (.ref a), .val (.int (fi 0)), .val (.int (fi sN)), .val (.long (fr sN)), .second, .val (.int i5), .val (.int i6)] [(.int i6), (.ref rka)])
          refine Ends.by (fun _ => XS.iconst X24.here hx rfl (hb hby d8_66)) ?_
          show Ends p e below _ T24 (mkF m 67 #[.val (.ref a), .val (.int (fi 0)), .val (.int (fi sN)), .val (.long (fr sN)), .second, .val (.int i5), .val (.int i6)] [(.int (1 : Int32)), (.int i6), (.ref rka)])
          refine Ends.by (fun _ => XS.iadd X24.here hx rfl (hb hby d8_67) rfl) ?_
          show Ends p e below _ T24 (mkF m 68 #[.val (.ref a), .val (.int (fi 0)), .val (.int (fi sN)), .val (.long (fr sN)), .second, .val (.int i5), .val (.int i6)] [(.int (i6 + (1 : Int32))), (.ref rka)])
          refine Ends.ldJ X24 hx hZ e24 Ar5 (k := (2 * H + 2)) (own_inc hi6 (by omega)) (by have := own_ltn2 hi6 hz1 c57; omega) (v := (.long (q5 (2 * H + 2)))) rfl (hb hby d8_68) ?_
          show Ends p e below _ T24 (mkF m 69 #[.val (.ref a), .val (.int (fi 0)), .val (.int (fi sN)), .val (.long (fr sN)), .second, .val (.int i5), .val (.int i6)] [(.long (q5 (2 * H + 2)))])
          refine Ends.by (fun _ => XS.aloadN X24.here hx rfl (hb hby d8_69) rfl rfl) ?_
          show Ends p e below _ T24 (mkF m 70 #[.val (.ref a), .val (.int (fi 0)), .val (.int (fi sN)), .val (.long (fr sN)), .second, .val (.int i5), .val (.int i6)] [(.ref a), (.long (q5 (2 * H + 2)))])
          obtain ⟨T25, X25, e25, st25⟩ := getF X24 hx hZ hown (host := "") (Or.inl (hw _ (List.mem_of_getElem? (i := 17) rfl))) Via.refl e24 Fr5 (g := (mkF m 70 #[.val (.ref a), .val (.int (fi 0)), .val (.int (fi sN)), .val (.long (fr sN)), .second, .val (.int i5), .val (.int i6)] [(.ref a), (.long (q5 (2 * H + 2)))])) rfl rfl (hb hby d8_70)
          refine Ends.by st25 ?_
          show Ends p e below _ T25 (mkF m 73 #[.val (.ref a), .val (.int (fi 0)), .val (.int (fi sN)), .val (.long (fr sN)), .second, .val (.int i5), .val (.int i6)] [(.ref rka), (.long (q5 (2 * H + 2)))])
          refine Ends.by (fun _ => XS.iload X25.here hx rfl (hb hby d8_73) rfl) ?_
          show Ends p e below _ T25 (mkF m 75 #[.val (.ref a), .val (.int (fi 0)), .val (.int (fi sN)), .val (.long (fr sN)), .second, .val (.int i5), .val (.int i6)] [(.int i6), (.ref rka), (.long (q5 (2 * H + 2)))])
          refine Ends.ldJ X25 hx hZ e25 Ar5 (k := (2 * H + 1)) hi6 (by omega) (v := (.long (q5 (2 * H + 1)))) rfl (hb hby d8_75) ?_
          show Ends p e below _ T25 (mkF m 76 #[.val (.ref a), .val (.int (fi 0)), .val (.int (fi sN)), .val (.long (fr sN)), .second, .val (.int i5), .val (.int i6)] [(.long (q5 (2 * H + 1))), (.long (q5 (2 * H + 2)))])
          refine Ends.by (fun _ => XS.lcmp X25.here hx rfl (hb hby d8_76) rfl) ?_
          show Ends p e below _ T25 (mkF m 77 #[.val (.ref a), .val (.int (fi 0)), .val (.int (fi sN)), .val (.long (fr sN)), .second, .val (.int i5), .val (.int i6)] [(.int (lcmpW (q5 (2 * H + 2)) (q5 (2 * H + 1))))])
          refine Ends.ifc X25 hx (hb hby d8_77) 83 (by decide) (by decide) (fun q => ?_) (fun q => ?_)
          · have c77 : ¬ ((lcmpW (q5 (2 * H + 2)) (q5 (2 * H + 1))) < (0 : Int32)) := own_ge.1 q
            show Ends p e below _ T25 (mkF m 83 #[.val (.ref a), .val (.int (fi 0)), .val (.int (fi sN)), .val (.long (fr sN)), .second, .val (.int i5), .val (.int i6)] [])
            exact J83 (2 * H + 1) _ _ hi6 hc1 (by omega) (by omega) (own_both1 (Int.not_lt.mp (fun y => c77 (own_lw.mpr y)))) X25 e25
          · have c77 : (lcmpW (q5 (2 * H + 2)) (q5 (2 * H + 1))) < (0 : Int32) := own_ge.2 q
            show Ends p e below _ T25 (mkF m 80 #[.val (.ref a), .val (.int (fi 0)), .val (.int (fi sN)), .val (.long (fr sN)), .second, .val (.int i5), .val (.int i6)] [])
            refine Ends.by (fun _ => XS.iinc X25.here hx rfl (hb hby d8_80) rfl (l' := #[.val (.ref a), .val (.int (fi 0)), .val (.int (fi sN)), .val (.long (fr sN)), .second, .val (.int i5), .val (.int (i6 + (1 : Int32)))]) rfl) ?_
            show Ends p e below _ T25 (mkF m 83 #[.val (.ref a), .val (.int (fi 0)), .val (.int (fi sN)), .val (.long (fr sN)), .second, .val (.int i5), .val (.int (i6 + (1 : Int32)))] [])
            exact J83 (2 * H + 2) _ _ (own_inc hi6 (by omega)) (own_ltn2 hi6 hz1 c57) (by omega) (by omega) (own_both2 (own_lw.mp c77)) X25 e25
  exact loop 100 0 _ _ _ _ _ _ _ rfl (by decide) (by omega) (by decide) (by decide) X6 e6 N4 Z4 E_a_4 F_a_ids_4 F_a_ranks_4 F_a_size_4 A_ida_4 A_rka_4 A_rr_4 (Dn.start hp)
theorem own_cap (i : Int32) : -1 ≤ ((i &&& (7 : Int32)) - (1 : Int32)).toInt ∧ ((i &&& (7 : Int32)) - (1 : Int32)).toInt ≤ 6 := by
  have e1 : (i &&& 7).toInt = i.toInt % (2 ^ 3 : Nat) := c_mask i 7 3 (by decide) (by decide)
  have e2 := c_isub (i &&& 7) 1
  have e3 : (1 : Int32).toInt = 1 := by decide
  have r := rng32 ((i &&& 7) - 1)
  omega
/-- the five taken, one by one: in range, unlike, in order -/
def Five (r5 : Nat → Int64) (t0 t1 t2 t3 t4 : Int32) : Prop :=
  (0 ≤ t0.toInt ∧ t0.toInt < 5) ∧ (0 ≤ t1.toInt ∧ t1.toInt < 5) ∧ (0 ≤ t2.toInt ∧ t2.toInt < 5) ∧ (0 ≤ t3.toInt ∧ t3.toInt < 5) ∧ (0 ≤ t4.toInt ∧ t4.toInt < 5) ∧
  (t0 ≠ t1 ∧ t0 ≠ t2 ∧ t0 ≠ t3 ∧ t0 ≠ t4 ∧ t1 ≠ t2 ∧ t1 ≠ t3 ∧ t1 ≠ t4 ∧ t2 ≠ t3 ∧ t2 ≠ t4 ∧ t3 ≠ t4) ∧
  ((r5 t0.toInt.toNat).toInt ≤ (r5 t1.toInt.toNat).toInt ∧ (r5 t1.toInt.toNat).toInt ≤ (r5 t2.toInt.toNat).toInt ∧ (r5 t2.toInt.toNat).toInt ≤ (r5 t3.toInt.toNat).toInt ∧ (r5 t3.toInt.toNat).toInt ≤ (r5 t4.toInt.toNat).toInt)
theorem own_le1 {r5 : Nat → Int64} {n : Nat} {fi gi : Nat → Int32} {fr gr : Nat → Int64} (H : HP r5 5 (n + 1) fi fr) (G : HP r5 5 n gi gr) (hn : 0 < n) (M : ∀ k, k < n → gi k ≠ fi 0 ∧ ∃ j, j < n + 1 ∧ gi k = fi j) : (r5 (fi 0).toInt.toNat).toInt ≤ (r5 (gi 0).toInt.toNat).toInt := by
  obtain ⟨j, hj, ej⟩ := (M 0 hn).2
  rw [ej, ← (H.1 0 (by omega)).2.2, ← (H.1 j hj).2.2]
  exact H.least j hj
theorem own_chain {r5 : Nat → Int64} {f5 f4 f3 f2 f1 : Nat → Int32} {q5 q4 q3 q2 q1 : Nat → Int64} (H5 : HP r5 5 5 f5 q5) (H4 : HP r5 5 4 f4 q4) (H3 : HP r5 5 3 f3 q3) (H2 : HP r5 5 2 f2 q2) (H1 : HP r5 5 1 f1 q1)
    (M4 : ∀ k, k < 4 → f4 k ≠ f5 0 ∧ ∃ j, j < 4 + 1 ∧ f4 k = f5 j) (M3 : ∀ k, k < 3 → f3 k ≠ f4 0 ∧ ∃ j, j < 3 + 1 ∧ f3 k = f4 j) (M2 : ∀ k, k < 2 → f2 k ≠ f3 0 ∧ ∃ j, j < 2 + 1 ∧ f2 k = f3 j) (M1 : ∀ k, k < 1 → f1 k ≠ f2 0 ∧ ∃ j, j < 1 + 1 ∧ f1 k = f2 j) :
    Five r5 (f5 0) (f4 0) (f3 0) (f2 0) (f1 0) := by
  have r5_ := H5.1 0 (by decide)
  have r4_ := H4.1 0 (by decide)
  have r3_ := H3.1 0 (by decide)
  have r2_ := H2.1 0 (by decide)
  have r1_ := H1.1 0 (by decide)
  have a4 : ∀ k, k < 4 → f4 k ≠ f5 0 := fun k h => (M4 k h).1
  have a3 : ∀ k, k < 3 → f3 k ≠ f5 0 := fun k h => by obtain ⟨j, hj, ej⟩ := (M3 k h).2; rw [ej]; exact a4 j hj
  have a2 : ∀ k, k < 2 → f2 k ≠ f5 0 := fun k h => by obtain ⟨j, hj, ej⟩ := (M2 k h).2; rw [ej]; exact a3 j hj
  have a1 : ∀ k, k < 1 → f1 k ≠ f5 0 := fun k h => by obtain ⟨j, hj, ej⟩ := (M1 k h).2; rw [ej]; exact a2 j hj
  have b3 : ∀ k, k < 3 → f3 k ≠ f4 0 := fun k h => (M3 k h).1
  have b2 : ∀ k, k < 2 → f2 k ≠ f4 0 := fun k h => by obtain ⟨j, hj, ej⟩ := (M2 k h).2; rw [ej]; exact b3 j hj
  have b1 : ∀ k, k < 1 → f1 k ≠ f4 0 := fun k h => by obtain ⟨j, hj, ej⟩ := (M1 k h).2; rw [ej]; exact b2 j hj
  have c2 : ∀ k, k < 2 → f2 k ≠ f3 0 := fun k h => (M2 k h).1
  have c1 : ∀ k, k < 1 → f1 k ≠ f3 0 := fun k h => by obtain ⟨j, hj, ej⟩ := (M1 k h).2; rw [ej]; exact c2 j hj
  have d1 : ∀ k, k < 1 → f1 k ≠ f2 0 := fun k h => (M1 k h).1
  refine ⟨⟨r5_.1, r5_.2.1⟩, ⟨r4_.1, r4_.2.1⟩, ⟨r3_.1, r3_.2.1⟩, ⟨r2_.1, r2_.2.1⟩, ⟨r1_.1, r1_.2.1⟩, ⟨(a4 0 (by decide)).symm, (a3 0 (by decide)).symm, (a2 0 (by decide)).symm, (a1 0 (by decide)).symm, (b3 0 (by decide)).symm, (b2 0 (by decide)).symm, (b1 0 (by decide)).symm, (c2 0 (by decide)).symm, (c1 0 (by decide)).symm, (d1 0 (by decide)).symm⟩, own_le1 H5 H4 (by decide) M4, own_le1 H4 H3 (by decide) M3, own_le1 H3 H2 (by decide) M2, own_le1 H2 H1 (by decide) M1⟩
theorem own_in {t : Int32} (h : 0 ≤ t.toInt ∧ t.toInt < 5) : ¬ f_9 t = (0 : Int32) := by
  have e0 : (0 : Int32).toInt = 0 := by decide
  have e5 : (5 : Int32).toInt = 5 := by decide
  unfold f_9
  rw [if_neg (by rw [Int32.lt_iff_toInt_lt]; omega), if_pos (by rw [Int32.lt_iff_toInt_lt]; omega)]
  decide
theorem own_mask {r5 : Nat → Int64} {t0 t1 t2 t3 t4 : Int32} (F : Five r5 t0 t1 t2 t3 t4) : (((((1 : Int32) <<< (t0 &&& 31)) ||| ((1 : Int32) <<< (t1 &&& 31))) ||| ((1 : Int32) <<< (t2 &&& 31))) ||| ((1 : Int32) <<< (t3 &&& 31))) ||| ((1 : Int32) <<< (t4 &&& 31)) = (31 : Int32) := by
  obtain ⟨h0, h1, h2, h3, h4, ⟨n1, n2, n3, n4, n5, n6, n7, n8, n9, n10⟩, -⟩ := F
  obtain ⟨a, ea, -⟩ := own_fin5 h0
  obtain ⟨b, eb, -⟩ := own_fin5 h1
  obtain ⟨c, ec, -⟩ := own_fin5 h2
  obtain ⟨d, ed, -⟩ := own_fin5 h3
  obtain ⟨e, ee, -⟩ := own_fin5 h4
  rw [ea, eb, ec, ed, ee]
  rcases own_or31 a b c d e with q | q | q | q | q | q | q | q | q | q | q
  · subst q; exact absurd (ea.trans eb.symm) n1
  · subst q; exact absurd (ea.trans ec.symm) n2
  · subst q; exact absurd (ea.trans ed.symm) n3
  · subst q; exact absurd (ea.trans ee.symm) n4
  · subst q; exact absurd (eb.trans ec.symm) n5
  · subst q; exact absurd (eb.trans ed.symm) n6
  · subst q; exact absurd (eb.trans ee.symm) n7
  · subst q; exact absurd (ec.trans ed.symm) n8
  · subst q; exact absurd (ec.trans ee.symm) n9
  · subst q; exact absurd (ed.trans ee.symm) n10
  · exact q
theorem own_tn {t : Int32} (h : 0 ≤ t.toInt ∧ t.toInt < 5) : t.toInt = ((t.toInt.toNat : Nat) : Int) := by omega
theorem own_tl {t : Int32} (h : 0 ≤ t.toInt ∧ t.toInt < 5) : t.toInt.toNat < 5 := by omega
theorem own_sorted0 {r5 : Nat → Int64} {t0 t1 t2 t3 t4 : Int32} (F : Five r5 t0 t1 t2 t3 t4) : ¬ (r5 t1.toInt.toNat).toInt < (r5 t0.toInt.toNat).toInt := Int.not_lt.mpr F.2.2.2.2.2.2.1
theorem own_sorted1 {r5 : Nat → Int64} {t0 t1 t2 t3 t4 : Int32} (F : Five r5 t0 t1 t2 t3 t4) : ¬ (r5 t2.toInt.toNat).toInt < (r5 t1.toInt.toNat).toInt := Int.not_lt.mpr F.2.2.2.2.2.2.2.1
theorem own_sorted2 {r5 : Nat → Int64} {t0 t1 t2 t3 t4 : Int32} (F : Five r5 t0 t1 t2 t3 t4) : ¬ (r5 t3.toInt.toNat).toInt < (r5 t2.toInt.toNat).toInt := Int.not_lt.mpr F.2.2.2.2.2.2.2.2.1
theorem own_sorted3 {r5 : Nat → Int64} {t0 t1 t2 t3 t4 : Int32} (F : Five r5 t0 t1 t2 t3 t4) : ¬ (r5 t4.toInt.toNat).toInt < (r5 t3.toInt.toNat).toInt := Int.not_lt.mpr F.2.2.2.2.2.2.2.2.2

theorem pd_0 : parseMethodDescriptor "(IJJJJJ)Z" = some ⟨[.int, .long, .long, .long, .long, .long], some .boolean⟩ := by decide +kernel
theorem pf_0 : plainFor x = true := plainFor_of_name (by first | (simp [plainName, overriddenIn, x]; done) | decide +kernel)
theorem ef_0 (m : MethodId) (i0 : Int32) (i1 : Int64) (i2 : Int64) (i3 : Int64) (i4 : Int64) (i5 : Int64) : entryFrame m #[(.int i0), (.long i1), (.long i2), (.long i3), (.long i4), (.long i5)] maxLocals = mkF m 0 #[.val (.int i0), .val (.long i1), .second, .val (.long i2), .second, .val (.long i3), .second, .val (.long i4), .second, .val (.long i5), .second, .unset, .unset, .unset, .unset, .unset, .unset, .unset, .unset] [] := by first | (simp [entryFrame, mkF, argsToLocals, Value.category, maxLocals]; done) | rfl
set_option maxRecDepth 65536 in
set_option maxHeartbeats 40000000 in
theorem con_0 (l : Launch) (Z : State) (a0 : Array Value) (hw : ∀ d ∈ tables_1, d.before a0 Z = true) (i0 : Int32) (i1 : Int64) (i2 : Int64) (i3 : Int64) (i4 : Int64) (i5 : Int64)  (h0 : Heap) (n0 : Nat) (Z0 : n0 ≤ h0.size) : Con l Z x code maxLocals ret room_1 #[(.int i0), (.long i1), (.long i2), (.long i3), (.long i4), (.long i5)] h0 (fun v h L => v = some (.int 1) ∧ Fr n0 L) := by
  refine Con.intro pf_0 ?_
  intro p e s m below meth c s₁ hx hby hml hown hnm hret hlk hZ X0 e0
  refine Ends.cast (ef_0 m i0 i1 i2 i3 i4 i5) ?_
  have N0 := Fr.nil n0
  obtain ⟨T1, h1, X1, e1, E1, A1, D1, -, st1⟩ := newO X0 hx hZ hown (hw _ (List.mem_of_getElem? (i := 0) rfl)) (hw _ (List.mem_of_getElem? (i := 1) rfl)) (hw _ (List.mem_of_getElem? (i := 2) rfl)) e0 (g := (mkF m 0 #[.val (.int i0), .val (.long i1), .second, .val (.long i2), .second, .val (.long i3), .second, .val (.long i4), .second, .val (.long i5), .second, .unset, .unset, .unset, .unset, .unset, .unset, .unset, .unset] [])) rfl (hb hby at_0) (by decide) (by decide)
  obtain ⟨b1, g1⟩ : ∃ z, z = h0.size := ⟨_, rfl⟩
  rw [← g1] at A1 D1 st1
  refine Ends.by st1 ?_
  have Z1 : n0 ≤ h1.size := Nat.le_trans Z0 E1.1
  have g_b1 : n0 ≤ b1 := Nat.le_trans Z0 (Nat.le_of_eq g1.symm)
  have F_b1_ids : Fld Z h1 b1 "com/example/tiefast/tiefast/IdHeap" "ids" "[I" .null := D1 (Or.inl (hw _ (List.mem_of_getElem? (i := 15) rfl))) (ty := (.array .int)) (by decide)
  have F_b1_ranks : Fld Z h1 b1 "com/example/tiefast/tiefast/IdHeap" "ranks" "[J" .null := D1 (Or.inl (hw _ (List.mem_of_getElem? (i := 18) rfl))) (ty := (.array .long)) (by decide)
  have F_b1_size : Fld Z h1 b1 "com/example/tiefast/tiefast/IdHeap" "size" "I" (.int (0 : Int32)) := D1 (Or.inl (hw _ (List.mem_of_getElem? (i := 25) rfl))) (ty := .int) (by decide)
  show Ends p e below _ T1 (mkF m 3 #[.val (.int i0), .val (.long i1), .second, .val (.long i2), .second, .val (.long i3), .second, .val (.long i4), .second, .val (.long i5), .second, .unset, .unset, .unset, .unset, .unset, .unset, .unset, .unset] [(.ref b1)])
  refine Ends.by (fun _ => XS.dup X1.here hx rfl (hb hby at_3) rfl rfl) ?_
  show Ends p e below _ T1 (mkF m 4 #[.val (.int i0), .val (.long i1), .second, .val (.long i2), .second, .val (.long i3), .second, .val (.long i4), .second, .val (.long i5), .second, .unset, .unset, .unset, .unset, .unset, .unset, .unset, .unset] [(.ref b1), (.ref b1)])
  refine Ends.by (fun _ => XS.iloadN X1.here hx rfl (hb hby at_4) rfl) ?_
  show Ends p e below _ T1 (mkF m 5 #[.val (.int i0), .val (.long i1), .second, .val (.long i2), .second, .val (.long i3), .second, .val (.long i4), .second, .val (.long i5), .second, .unset, .unset, .unset, .unset, .unset, .unset, .unset, .unset] [(.int i0), (.ref b1), (.ref b1)])
  refine Ends.by (fun _ => XS.bipush X1.here hx rfl (hb hby at_5)) ?_
  show Ends p e below _ T1 (mkF m 7 #[.val (.int i0), .val (.long i1), .second, .val (.long i2), .second, .val (.long i3), .second, .val (.long i4), .second, .val (.long i5), .second, .unset, .unset, .unset, .unset, .unset, .unset, .unset, .unset] [(.int (7 : Int32)), (.int i0), (.ref b1), (.ref b1)])
  refine Ends.by (fun _ => XS.iand X1.here hx rfl (hb hby at_7) rfl) ?_
  show Ends p e below _ T1 (mkF m 8 #[.val (.int i0), .val (.long i1), .second, .val (.long i2), .second, .val (.long i3), .second, .val (.long i4), .second, .val (.long i5), .second, .unset, .unset, .unset, .unset, .unset, .unset, .unset, .unset] [(.int (i0 &&& (7 : Int32))), (.ref b1), (.ref b1)])
  refine Ends.by (fun _ => XS.iconst X1.here hx rfl (hb hby at_8)) ?_
  show Ends p e below _ T1 (mkF m 9 #[.val (.int i0), .val (.long i1), .second, .val (.long i2), .second, .val (.long i3), .second, .val (.long i4), .second, .val (.long i5), .second, .unset, .unset, .unset, .unset, .unset, .unset, .unset, .unset] [(.int (1 : Int32)), (.int (i0 &&& (7 : Int32))), (.ref b1), (.ref b1)])
  refine Ends.by (fun _ => XS.isub X1.here hx rfl (hb hby at_9) rfl) ?_
  show Ends p e below _ T1 (mkF m 10 #[.val (.int i0), .val (.long i1), .second, .val (.long i2), .second, .val (.long i3), .second, .val (.long i4), .second, .val (.long i5), .second, .unset, .unset, .unset, .unset, .unset, .unset, .unset, .unset] [(.int ((i0 &&& (7 : Int32)) - (1 : Int32))), (.ref b1), (.ref b1)])
  have hk0 := own_cap i0
  obtain ⟨k, hk⟩ := own_max hk0
  refine Ends.callI (a := b1) (argsL := [(.int ((i0 &&& (7 : Int32)) - (1 : Int32)))]) (rest := [(.ref b1)]) X1 hx hZ rfl hown (hw _ (List.mem_of_getElem? (i := 3) rfl)) (hw _ (List.mem_of_getElem? (i := 4) rfl)) (hw _ (List.mem_of_getElem? (i := 2) rfl)) (hw _ (List.mem_of_getElem? (i := 5) rfl)) (by decide) (con_1 l Z a0 hw b1 ((i0 &&& (7 : Int32)) - (1 : Int32)) k h1 n0 Z1 A1 F_b1_ids F_b1_ranks F_b1_size g_b1 hk.1 hk.2.2) e1 (by rw [hml]; rfl) (hb hby at_10) (lenOf pd_1 rfl) 1 (Nat.le_of_eq rfl) (by decide) (by decide) (by decide) (by decide) ?_
  intro v T2 L2 X2 hQ
  obtain ⟨ida, rka, rfl, N2q, K2q, E2q, F2q, G2q, H2q, A2q, B2q, gida, grka⟩ := hQ
  have N2 := Fr.app N0 N2q
  have E_b1_2 : Exa Z T2.heap b1 "com/example/tiefast/tiefast/IdHeap" := A1.keep K2q
  have Z2 : n0 ≤ T2.heap.size := Nat.le_trans Z1 K2q.1
  show Ends p e below _ T2 (mkF m 13 #[.val (.int i0), .val (.long i1), .second, .val (.long i2), .second, .val (.long i3), .second, .val (.long i4), .second, .val (.long i5), .second, .unset, .unset, .unset, .unset, .unset, .unset, .unset, .unset] [(.ref b1)])
  refine Ends.by (fun _ => XS.astore X2.here hx rfl (hb hby at_13) rfl rfl (l' := #[.val (.int i0), .val (.long i1), .second, .val (.long i2), .second, .val (.long i3), .second, .val (.long i4), .second, .val (.long i5), .second, .val (.ref b1), .unset, .unset, .unset, .unset, .unset, .unset, .unset]) rfl) ?_
  show Ends p e below _ T2 (mkF m 15 #[.val (.int i0), .val (.long i1), .second, .val (.long i2), .second, .val (.long i3), .second, .val (.long i4), .second, .val (.long i5), .second, .val (.ref b1), .unset, .unset, .unset, .unset, .unset, .unset, .unset] [])
  refine Ends.by (fun _ => XS.iconst X2.here hx rfl (hb hby at_15)) ?_
  show Ends p e below _ T2 (mkF m 16 #[.val (.int i0), .val (.long i1), .second, .val (.long i2), .second, .val (.long i3), .second, .val (.long i4), .second, .val (.long i5), .second, .val (.ref b1), .unset, .unset, .unset, .unset, .unset, .unset, .unset] [(.int (5 : Int32))])
  refine Ends.newA X2 hx hZ (hw _ (List.mem_of_getElem? (i := 16) rfl)) rfl (n := 5) (by decide) 5 (by decide) (by decide) (by decide) (by decide) rfl (ad := "[J") (by decide) (hb hby at_16) ?_
  intro T3 h3 b3 g3 X3 e3 E3 A3 Q3
  have E_b1_3 : Exa Z h3 b1 "com/example/tiefast/tiefast/IdHeap" := E2q.ext E3
  have F_b1_ids_3 : Fld Z h3 b1 "com/example/tiefast/tiefast/IdHeap" "ids" "[I" (.ref ida) := F2q.ext E3
  have F_b1_ranks_3 : Fld Z h3 b1 "com/example/tiefast/tiefast/IdHeap" "ranks" "[J" (.ref rka) := G2q.ext E3
  have F_b1_size_3 : Fld Z h3 b1 "com/example/tiefast/tiefast/IdHeap" "size" "I" (.int (0 : Int32)) := H2q.ext E3
  have A_ida_3 : Af Z h3 ida .int k (fun q => .int ((fun _ => (0 : Int32)) q)) := A2q.ext E3
  have A_rka_3 : Af Z h3 rka .long k (fun q => .long ((fun _ => (0 : Int64)) q)) := B2q.ext E3
  have Z3 : n0 ≤ h3.size := Nat.le_trans Z2 E3.1
  have g_b3 : n0 ≤ b3 := Nat.le_trans Z2 (Nat.le_of_eq g3.symm)
  have ne_b1_b3 : b1 ≠ b3 := Nat.ne_of_lt (Nat.lt_of_lt_of_le E2q.lt (Nat.le_of_eq g3.symm))
  have ne_ida_b3 : ida ≠ b3 := Nat.ne_of_lt (Nat.lt_of_lt_of_le A2q.lt (Nat.le_of_eq g3.symm))
  have ne_rka_b3 : rka ≠ b3 := Nat.ne_of_lt (Nat.lt_of_lt_of_le B2q.lt (Nat.le_of_eq g3.symm))
  have A_b3 : Af Z h3 b3 .long 5 (fun q => .long ((fun _ => (0 : Int64)) q)) := A3
  show Ends p e below _ T3 (mkF m 18 #[.val (.int i0), .val (.long i1), .second, .val (.long i2), .second, .val (.long i3), .second, .val (.long i4), .second, .val (.long i5), .second, .val (.ref b1), .unset, .unset, .unset, .unset, .unset, .unset, .unset] [(.ref b3)])
  refine Ends.by (fun _ => XS.dup X3.here hx rfl (hb hby at_18) rfl rfl) ?_
  show Ends p e below _ T3 (mkF m 19 #[.val (.int i0), .val (.long i1), .second, .val (.long i2), .second, .val (.long i3), .second, .val (.long i4), .second, .val (.long i5), .second, .val (.ref b1), .unset, .unset, .unset, .unset, .unset, .unset, .unset] [(.ref b3), (.ref b3)])
  refine Ends.by (fun _ => XS.iconst X3.here hx rfl (hb hby at_19)) ?_
  show Ends p e below _ T3 (mkF m 20 #[.val (.int i0), .val (.long i1), .second, .val (.long i2), .second, .val (.long i3), .second, .val (.long i4), .second, .val (.long i5), .second, .val (.ref b1), .unset, .unset, .unset, .unset, .unset, .unset, .unset] [(.int (0 : Int32)), (.ref b3), (.ref b3)])
  refine Ends.by (fun _ => XS.lloadN X3.here hx rfl (hb hby at_20) rfl) ?_
  show Ends p e below _ T3 (mkF m 21 #[.val (.int i0), .val (.long i1), .second, .val (.long i2), .second, .val (.long i3), .second, .val (.long i4), .second, .val (.long i5), .second, .val (.ref b1), .unset, .unset, .unset, .unset, .unset, .unset, .unset] [(.long i1), (.int (0 : Int32)), (.ref b3), (.ref b3)])
  refine Ends.stJ X3 hx hZ e3 N2 g_b3 A_b3 (k := 0) (by decide) (by decide) (hb hby at_21) ?_
  intro T4 h4 L4 X4 e4 N4 W4 B4
  have C4 : Af Z h4 b3 .long 5 (fun q => .long ((upd (fun _ => (0 : Int64)) 0 i1) q)) := B4.congr (fun q _ => own_updL (fun _ => (0 : Int64)) 0 _ q)
  have E_b1_4 : Exa Z h4 b1 "com/example/tiefast/tiefast/IdHeap" := E_b1_3.wr W4
  have F_b1_ids_4 : Fld Z h4 b1 "com/example/tiefast/tiefast/IdHeap" "ids" "[I" (.ref ida) := F_b1_ids_3.other W4 (Or.inl ne_b1_b3)
  have F_b1_ranks_4 : Fld Z h4 b1 "com/example/tiefast/tiefast/IdHeap" "ranks" "[J" (.ref rka) := F_b1_ranks_3.other W4 (Or.inl ne_b1_b3)
  have F_b1_size_4 : Fld Z h4 b1 "com/example/tiefast/tiefast/IdHeap" "size" "I" (.int (0 : Int32)) := F_b1_size_3.other W4 (Or.inl ne_b1_b3)
  have A_ida_4 : Af Z h4 ida .int k (fun q => .int ((fun _ => (0 : Int32)) q)) := A_ida_3.other W4 ne_ida_b3
  have A_rka_4 : Af Z h4 rka .long k (fun q => .long ((fun _ => (0 : Int64)) q)) := A_rka_3.other W4 ne_rka_b3
  have E_b3_4 : Exa Z h4 b3 "[J" := Q3.wr W4
  have Z4 : n0 ≤ h4.size := Nat.le_trans Z3 (Nat.le_of_eq W4.size.symm)
  show Ends p e below _ T4 (mkF m 22 #[.val (.int i0), .val (.long i1), .second, .val (.long i2), .second, .val (.long i3), .second, .val (.long i4), .second, .val (.long i5), .second, .val (.ref b1), .unset, .unset, .unset, .unset, .unset, .unset, .unset] [(.ref b3)])
  refine Ends.by (fun _ => XS.dup X4.here hx rfl (hb hby at_22) rfl rfl) ?_
  show Ends p e below _ T4 (mkF m 23 #[.val (.int i0), .val (.long i1), .second, .val (.long i2), .second, .val (.long i3), .second, .val (.long i4), .second, .val (.long i5), .second, .val (.ref b1), .unset, .unset, .unset, .unset, .unset, .unset, .unset] [(.ref b3), (.ref b3)])
  refine Ends.by (fun _ => XS.iconst X4.here hx rfl (hb hby at_23)) ?_
  show Ends p e below _ T4 (mkF m 24 #[.val (.int i0), .val (.long i1), .second, .val (.long i2), .second, .val (.long i3), .second, .val (.long i4), .second, .val (.long i5), .second, .val (.ref b1), .unset, .unset, .unset, .unset, .unset, .unset, .unset] [(.int (1 : Int32)), (.ref b3), (.ref b3)])
  refine Ends.by (fun _ => XS.lloadN X4.here hx rfl (hb hby at_24) rfl) ?_
  show Ends p e below _ T4 (mkF m 25 #[.val (.int i0), .val (.long i1), .second, .val (.long i2), .second, .val (.long i3), .second, .val (.long i4), .second, .val (.long i5), .second, .val (.ref b1), .unset, .unset, .unset, .unset, .unset, .unset, .unset] [(.long i2), (.int (1 : Int32)), (.ref b3), (.ref b3)])
  refine Ends.stJ X4 hx hZ e4 N4 g_b3 C4 (k := 1) (by decide) (by decide) (hb hby at_25) ?_
  intro T5 h5 L5 X5 e5 N5 W5 B5
  have C5 : Af Z h5 b3 .long 5 (fun q => .long ((upd (upd (fun _ => (0 : Int64)) 0 i1) 1 i2) q)) := B5.congr (fun q _ => own_updL (upd (fun _ => (0 : Int64)) 0 i1) 1 _ q)
  have E_b1_5 : Exa Z h5 b1 "com/example/tiefast/tiefast/IdHeap" := E_b1_4.wr W5
  have F_b1_ids_5 : Fld Z h5 b1 "com/example/tiefast/tiefast/IdHeap" "ids" "[I" (.ref ida) := F_b1_ids_4.other W5 (Or.inl ne_b1_b3)
  have F_b1_ranks_5 : Fld Z h5 b1 "com/example/tiefast/tiefast/IdHeap" "ranks" "[J" (.ref rka) := F_b1_ranks_4.other W5 (Or.inl ne_b1_b3)
  have F_b1_size_5 : Fld Z h5 b1 "com/example/tiefast/tiefast/IdHeap" "size" "I" (.int (0 : Int32)) := F_b1_size_4.other W5 (Or.inl ne_b1_b3)
  have A_ida_5 : Af Z h5 ida .int k (fun q => .int ((fun _ => (0 : Int32)) q)) := A_ida_4.other W5 ne_ida_b3
  have A_rka_5 : Af Z h5 rka .long k (fun q => .long ((fun _ => (0 : Int64)) q)) := A_rka_4.other W5 ne_rka_b3
  have E_b3_5 : Exa Z h5 b3 "[J" := E_b3_4.wr W5
  have Z5 : n0 ≤ h5.size := Nat.le_trans Z4 (Nat.le_of_eq W5.size.symm)
  show Ends p e below _ T5 (mkF m 26 #[.val (.int i0), .val (.long i1), .second, .val (.long i2), .second, .val (.long i3), .second, .val (.long i4), .second, .val (.long i5), .second, .val (.ref b1), .unset, .unset, .unset, .unset, .unset, .unset, .unset] [(.ref b3)])
  refine Ends.by (fun _ => XS.dup X5.here hx rfl (hb hby at_26) rfl rfl) ?_
  show Ends p e below _ T5 (mkF m 27 #[.val (.int i0), .val (.long i1), .second, .val (.long i2), .second, .val (.long i3), .second, .val (.long i4), .second, .val (.long i5), .second, .val (.ref b1), .unset, .unset, .unset, .unset, .unset, .unset, .unset] [(.ref b3), (.ref b3)])
  refine Ends.by (fun _ => XS.iconst X5.here hx rfl (hb hby at_27)) ?_
  show Ends p e below _ T5 (mkF m 28 #[.val (.int i0), .val (.long i1), .second, .val (.long i2), .second, .val (.long i3), .second, .val (.long i4), .second, .val (.long i5), .second, .val (.ref b1), .unset, .unset, .unset, .unset, .unset, .unset, .unset] [(.int (2 : Int32)), (.ref b3), (.ref b3)])
  refine Ends.by (fun _ => XS.lload X5.here hx rfl (hb hby at_28) rfl) ?_
  show Ends p e below _ T5 (mkF m 30 #[.val (.int i0), .val (.long i1), .second, .val (.long i2), .second, .val (.long i3), .second, .val (.long i4), .second, .val (.long i5), .second, .val (.ref b1), .unset, .unset, .unset, .unset, .unset, .unset, .unset] [(.long i3), (.int (2 : Int32)), (.ref b3), (.ref b3)])
  refine Ends.stJ X5 hx hZ e5 N5 g_b3 C5 (k := 2) (by decide) (by decide) (hb hby at_30) ?_
  intro T6 h6 L6 X6 e6 N6 W6 B6
  have C6 : Af Z h6 b3 .long 5 (fun q => .long ((upd (upd (upd (fun _ => (0 : Int64)) 0 i1) 1 i2) 2 i3) q)) := B6.congr (fun q _ => own_updL (upd (upd (fun _ => (0 : Int64)) 0 i1) 1 i2) 2 _ q)
  have E_b1_6 : Exa Z h6 b1 "com/example/tiefast/tiefast/IdHeap" := E_b1_5.wr W6
  have F_b1_ids_6 : Fld Z h6 b1 "com/example/tiefast/tiefast/IdHeap" "ids" "[I" (.ref ida) := F_b1_ids_5.other W6 (Or.inl ne_b1_b3)
  have F_b1_ranks_6 : Fld Z h6 b1 "com/example/tiefast/tiefast/IdHeap" "ranks" "[J" (.ref rka) := F_b1_ranks_5.other W6 (Or.inl ne_b1_b3)
  have F_b1_size_6 : Fld Z h6 b1 "com/example/tiefast/tiefast/IdHeap" "size" "I" (.int (0 : Int32)) := F_b1_size_5.other W6 (Or.inl ne_b1_b3)
  have A_ida_6 : Af Z h6 ida .int k (fun q => .int ((fun _ => (0 : Int32)) q)) := A_ida_5.other W6 ne_ida_b3
  have A_rka_6 : Af Z h6 rka .long k (fun q => .long ((fun _ => (0 : Int64)) q)) := A_rka_5.other W6 ne_rka_b3
  have E_b3_6 : Exa Z h6 b3 "[J" := E_b3_5.wr W6
  have Z6 : n0 ≤ h6.size := Nat.le_trans Z5 (Nat.le_of_eq W6.size.symm)
  show Ends p e below _ T6 (mkF m 31 #[.val (.int i0), .val (.long i1), .second, .val (.long i2), .second, .val (.long i3), .second, .val (.long i4), .second, .val (.long i5), .second, .val (.ref b1), .unset, .unset, .unset, .unset, .unset, .unset, .unset] [(.ref b3)])
  refine Ends.by (fun _ => XS.dup X6.here hx rfl (hb hby at_31) rfl rfl) ?_
  show Ends p e below _ T6 (mkF m 32 #[.val (.int i0), .val (.long i1), .second, .val (.long i2), .second, .val (.long i3), .second, .val (.long i4), .second, .val (.long i5), .second, .val (.ref b1), .unset, .unset, .unset, .unset, .unset, .unset, .unset] [(.ref b3), (.ref b3)])
  refine Ends.by (fun _ => XS.iconst X6.here hx rfl (hb hby at_32)) ?_
  show Ends p e below _ T6 (mkF m 33 #[.val (.int i0), .val (.long i1), .second, .val (.long i2), .second, .val (.long i3), .second, .val (.long i4), .second, .val (.long i5), .second, .val (.ref b1), .unset, .unset, .unset, .unset, .unset, .unset, .unset] [(.int (3 : Int32)), (.ref b3), (.ref b3)])
  refine Ends.by (fun _ => XS.lload X6.here hx rfl (hb hby at_33) rfl) ?_
  show Ends p e below _ T6 (mkF m 35 #[.val (.int i0), .val (.long i1), .second, .val (.long i2), .second, .val (.long i3), .second, .val (.long i4), .second, .val (.long i5), .second, .val (.ref b1), .unset, .unset, .unset, .unset, .unset, .unset, .unset] [(.long i4), (.int (3 : Int32)), (.ref b3), (.ref b3)])
  refine Ends.stJ X6 hx hZ e6 N6 g_b3 C6 (k := 3) (by decide) (by decide) (hb hby at_35) ?_
  intro T7 h7 L7 X7 e7 N7 W7 B7
  have C7 : Af Z h7 b3 .long 5 (fun q => .long ((upd (upd (upd (upd (fun _ => (0 : Int64)) 0 i1) 1 i2) 2 i3) 3 i4) q)) := B7.congr (fun q _ => own_updL (upd (upd (upd (fun _ => (0 : Int64)) 0 i1) 1 i2) 2 i3) 3 _ q)
  have E_b1_7 : Exa Z h7 b1 "com/example/tiefast/tiefast/IdHeap" := E_b1_6.wr W7
  have F_b1_ids_7 : Fld Z h7 b1 "com/example/tiefast/tiefast/IdHeap" "ids" "[I" (.ref ida) := F_b1_ids_6.other W7 (Or.inl ne_b1_b3)
  have F_b1_ranks_7 : Fld Z h7 b1 "com/example/tiefast/tiefast/IdHeap" "ranks" "[J" (.ref rka) := F_b1_ranks_6.other W7 (Or.inl ne_b1_b3)
  have F_b1_size_7 : Fld Z h7 b1 "com/example/tiefast/tiefast/IdHeap" "size" "I" (.int (0 : Int32)) := F_b1_size_6.other W7 (Or.inl ne_b1_b3)
  have A_ida_7 : Af Z h7 ida .int k (fun q => .int ((fun _ => (0 : Int32)) q)) := A_ida_6.other W7 ne_ida_b3
  have A_rka_7 : Af Z h7 rka .long k (fun q => .long ((fun _ => (0 : Int64)) q)) := A_rka_6.other W7 ne_rka_b3
  have E_b3_7 : Exa Z h7 b3 "[J" := E_b3_6.wr W7
  have Z7 : n0 ≤ h7.size := Nat.le_trans Z6 (Nat.le_of_eq W7.size.symm)
  show Ends p e below _ T7 (mkF m 36 #[.val (.int i0), .val (.long i1), .second, .val (.long i2), .second, .val (.long i3), .second, .val (.long i4), .second, .val (.long i5), .second, .val (.ref b1), .unset, .unset, .unset, .unset, .unset, .unset, .unset] [(.ref b3)])
  refine Ends.by (fun _ => XS.dup X7.here hx rfl (hb hby at_36) rfl rfl) ?_
  show Ends p e below _ T7 (mkF m 37 #[.val (.int i0), .val (.long i1), .second, .val (.long i2), .second, .val (.long i3), .second, .val (.long i4), .second, .val (.long i5), .second, .val (.ref b1), .unset, .unset, .unset, .unset, .unset, .unset, .unset] [(.ref b3), (.ref b3)])
  refine Ends.by (fun _ => XS.iconst X7.here hx rfl (hb hby at_37)) ?_
  show Ends p e below _ T7 (mkF m 38 #[.val (.int i0), .val (.long i1), .second, .val (.long i2), .second, .val (.long i3), .second, .val (.long i4), .second, .val (.long i5), .second, .val (.ref b1), .unset, .unset, .unset, .unset, .unset, .unset, .unset] [(.int (4 : Int32)), (.ref b3), (.ref b3)])
  refine Ends.by (fun _ => XS.lload X7.here hx rfl (hb hby at_38) rfl) ?_
  show Ends p e below _ T7 (mkF m 40 #[.val (.int i0), .val (.long i1), .second, .val (.long i2), .second, .val (.long i3), .second, .val (.long i4), .second, .val (.long i5), .second, .val (.ref b1), .unset, .unset, .unset, .unset, .unset, .unset, .unset] [(.long i5), (.int (4 : Int32)), (.ref b3), (.ref b3)])
  refine Ends.stJ X7 hx hZ e7 N7 g_b3 C7 (k := 4) (by decide) (by decide) (hb hby at_40) ?_
  intro T8 h8 L8 X8 e8 N8 W8 B8
  have C8 : Af Z h8 b3 .long 5 (fun q => .long ((upd (upd (upd (upd (upd (fun _ => (0 : Int64)) 0 i1) 1 i2) 2 i3) 3 i4) 4 i5) q)) := B8.congr (fun q _ => own_updL (upd (upd (upd (upd (fun _ => (0 : Int64)) 0 i1) 1 i2) 2 i3) 3 i4) 4 _ q)
  have E_b1_8 : Exa Z h8 b1 "com/example/tiefast/tiefast/IdHeap" := E_b1_7.wr W8
  have F_b1_ids_8 : Fld Z h8 b1 "com/example/tiefast/tiefast/IdHeap" "ids" "[I" (.ref ida) := F_b1_ids_7.other W8 (Or.inl ne_b1_b3)
  have F_b1_ranks_8 : Fld Z h8 b1 "com/example/tiefast/tiefast/IdHeap" "ranks" "[J" (.ref rka) := F_b1_ranks_7.other W8 (Or.inl ne_b1_b3)
  have F_b1_size_8 : Fld Z h8 b1 "com/example/tiefast/tiefast/IdHeap" "size" "I" (.int (0 : Int32)) := F_b1_size_7.other W8 (Or.inl ne_b1_b3)
  have A_ida_8 : Af Z h8 ida .int k (fun q => .int ((fun _ => (0 : Int32)) q)) := A_ida_7.other W8 ne_ida_b3
  have A_rka_8 : Af Z h8 rka .long k (fun q => .long ((fun _ => (0 : Int64)) q)) := A_rka_7.other W8 ne_rka_b3
  have E_b3_8 : Exa Z h8 b3 "[J" := E_b3_7.wr W8
  have Z8 : n0 ≤ h8.size := Nat.le_trans Z7 (Nat.le_of_eq W8.size.symm)
  show Ends p e below _ T8 (mkF m 41 #[.val (.int i0), .val (.long i1), .second, .val (.long i2), .second, .val (.long i3), .second, .val (.long i4), .second, .val (.long i5), .second, .val (.ref b1), .unset, .unset, .unset, .unset, .unset, .unset, .unset] [(.ref b3)])
  refine Ends.by (fun _ => XS.astore X8.here hx rfl (hb hby at_41) rfl rfl (l' := #[.val (.int i0), .val (.long i1), .second, .val (.long i2), .second, .val (.long i3), .second, .val (.long i4), .second, .val (.long i5), .second, .val (.ref b1), .val (.ref b3), .unset, .unset, .unset, .unset, .unset, .unset]) rfl) ?_
  show Ends p e below _ T8 (mkF m 43 #[.val (.int i0), .val (.long i1), .second, .val (.long i2), .second, .val (.long i3), .second, .val (.long i4), .second, .val (.long i5), .second, .val (.ref b1), .val (.ref b3), .unset, .unset, .unset, .unset, .unset, .unset] [])
  refine Ends.by (fun _ => XS.aload X8.here hx rfl (hb hby at_43) rfl rfl) ?_
  show Ends p e below _ T8 (mkF m 45 #[.val (.int i0), .val (.long i1), .second, .val (.long i2), .second, .val (.long i3), .second, .val (.long i4), .second, .val (.long i5), .second, .val (.ref b1), .val (.ref b3), .unset, .unset, .unset, .unset, .unset, .unset] [(.ref b1)])
  refine Ends.by (fun _ => XS.iconst X8.here hx rfl (hb hby at_45)) ?_
  show Ends p e below _ T8 (mkF m 46 #[.val (.int i0), .val (.long i1), .second, .val (.long i2), .second, .val (.long i3), .second, .val (.long i4), .second, .val (.long i5), .second, .val (.ref b1), .val (.ref b3), .unset, .unset, .unset, .unset, .unset, .unset] [(.int (0 : Int32)), (.ref b1)])
  refine Ends.by (fun _ => XS.lloadN X8.here hx rfl (hb hby at_46) rfl) ?_
  show Ends p e below _ T8 (mkF m 47 #[.val (.int i0), .val (.long i1), .second, .val (.long i2), .second, .val (.long i3), .second, .val (.long i4), .second, .val (.long i5), .second, .val (.ref b1), .val (.ref b3), .unset, .unset, .unset, .unset, .unset, .unset] [(.long i1), (.int (0 : Int32)), (.ref b1)])
  refine Ends.callV (a := b1) (argsL := [(.int (0 : Int32)), (.long i1)]) (rest := []) X8 hx hZ hown (hw _ (List.mem_of_getElem? (i := 19) rfl)) (hw _ (List.mem_of_getElem? (i := 20) rfl)) (hw _ (List.mem_of_getElem? (i := 21) rfl)) (hw _ (List.mem_of_getElem? (i := 22) rfl)) (hw _ (List.mem_of_getElem? (i := 2) rfl)) (hw _ (List.mem_of_getElem? (i := 23) rfl)) (by decide) (con_4 l Z a0 hw b1 (0 : Int32) i1 ida rka b3 k 0 0 (0 : Int32) (fun _ => (0 : Int32)) (fun _ => (0 : Int64)) (upd (upd (upd (upd (upd (fun _ => (0 : Int64)) 0 i1) 1 i2) 2 i3) 3 i4) 4 i5) h8 n0 Z8 E_b1_8 F_b1_ids_8 F_b1_ranks_8 F_b1_size_8 A_ida_8 A_rka_8 C8 ne_rka_b3 g_b1 gida grka (by decide) hk.2.1 (Nat.zero_le _) (by omega) (by decide) (HP.nil _ _ _) (by decide) rfl) e8 E_b1_8 (by rw [hml]; rfl) (hb hby at_47) (lenOf pd_4 rfl) 0 (Nat.le_of_eq rfl) (by decide) (by decide) (by decide) (by decide) ?_
  intro v T9 L9 X9 hQ
  obtain ⟨ia9, ra9, n9', z9', fi9', fr9', rfl, N9q, Z9q, E9q, Fi9q, Fr9q, Fs9q, Ai9q, Ar9q, Ac9q, ne9q, gi9q, gr9q, hz9q, hs9q, h89q, hp9q⟩ := hQ
  have N9 := Fr.app N8 N9q
  show Ends p e below _ T9 (mkF m 50 #[.val (.int i0), .val (.long i1), .second, .val (.long i2), .second, .val (.long i3), .second, .val (.long i4), .second, .val (.long i5), .second, .val (.ref b1), .val (.ref b3), .unset, .unset, .unset, .unset, .unset, .unset] [])
  refine Ends.by (fun _ => XS.aload X9.here hx rfl (hb hby at_50) rfl rfl) ?_
  show Ends p e below _ T9 (mkF m 52 #[.val (.int i0), .val (.long i1), .second, .val (.long i2), .second, .val (.long i3), .second, .val (.long i4), .second, .val (.long i5), .second, .val (.ref b1), .val (.ref b3), .unset, .unset, .unset, .unset, .unset, .unset] [(.ref b1)])
  refine Ends.by (fun _ => XS.iconst X9.here hx rfl (hb hby at_52)) ?_
  show Ends p e below _ T9 (mkF m 53 #[.val (.int i0), .val (.long i1), .second, .val (.long i2), .second, .val (.long i3), .second, .val (.long i4), .second, .val (.long i5), .second, .val (.ref b1), .val (.ref b3), .unset, .unset, .unset, .unset, .unset, .unset] [(.int (1 : Int32)), (.ref b1)])
  refine Ends.by (fun _ => XS.lloadN X9.here hx rfl (hb hby at_53) rfl) ?_
  show Ends p e below _ T9 (mkF m 54 #[.val (.int i0), .val (.long i1), .second, .val (.long i2), .second, .val (.long i3), .second, .val (.long i4), .second, .val (.long i5), .second, .val (.ref b1), .val (.ref b3), .unset, .unset, .unset, .unset, .unset, .unset] [(.long i2), (.int (1 : Int32)), (.ref b1)])
  refine Ends.callV (a := b1) (argsL := [(.int (1 : Int32)), (.long i2)]) (rest := []) X9 hx hZ hown (hw _ (List.mem_of_getElem? (i := 19) rfl)) (hw _ (List.mem_of_getElem? (i := 20) rfl)) (hw _ (List.mem_of_getElem? (i := 21) rfl)) (hw _ (List.mem_of_getElem? (i := 22) rfl)) (hw _ (List.mem_of_getElem? (i := 2) rfl)) (hw _ (List.mem_of_getElem? (i := 23) rfl)) (by decide) (con_4 l Z a0 hw b1 (1 : Int32) i2 ia9 ra9 b3 n9' 1 1 z9' fi9' fr9' (upd (upd (upd (upd (upd (fun _ => (0 : Int64)) 0 i1) 1 i2) 2 i3) 3 i4) 4 i5) T9.heap n0 Z9q E9q Fi9q Fr9q Fs9q Ai9q Ar9q Ac9q ne9q g_b1 gi9q gr9q hz9q (by omega) hs9q h89q (by decide) hp9q (by decide) rfl) rfl E9q (by rw [hml]; rfl) (hb hby at_54) (lenOf pd_4 rfl) 0 (Nat.le_of_eq rfl) (by decide) (by decide) (by decide) (by decide) ?_
  intro v T10 L10 X10 hQ
  obtain ⟨ia10, ra10, n10', z10', fi10', fr10', rfl, N10q, Z10q, E10q, Fi10q, Fr10q, Fs10q, Ai10q, Ar10q, Ac10q, ne10q, gi10q, gr10q, hz10q, hs10q, h810q, hp10q⟩ := hQ
  have N10 := Fr.app N9 N10q
  show Ends p e below _ T10 (mkF m 57 #[.val (.int i0), .val (.long i1), .second, .val (.long i2), .second, .val (.long i3), .second, .val (.long i4), .second, .val (.long i5), .second, .val (.ref b1), .val (.ref b3), .unset, .unset, .unset, .unset, .unset, .unset] [])
  refine Ends.by (fun _ => XS.aload X10.here hx rfl (hb hby at_57) rfl rfl) ?_
  show Ends p e below _ T10 (mkF m 59 #[.val (.int i0), .val (.long i1), .second, .val (.long i2), .second, .val (.long i3), .second, .val (.long i4), .second, .val (.long i5), .second, .val (.ref b1), .val (.ref b3), .unset, .unset, .unset, .unset, .unset, .unset] [(.ref b1)])
  refine Ends.by (fun _ => XS.iconst X10.here hx rfl (hb hby at_59)) ?_
  show Ends p e below _ T10 (mkF m 60 #[.val (.int i0), .val (.long i1), .second, .val (.long i2), .second, .val (.long i3), .second, .val (.long i4), .second, .val (.long i5), .second, .val (.ref b1), .val (.ref b3), .unset, .unset, .unset, .unset, .unset, .unset] [(.int (2 : Int32)), (.ref b1)])
  refine Ends.by (fun _ => XS.lload X10.here hx rfl (hb hby at_60) rfl) ?_
  show Ends p e below _ T10 (mkF m 62 #[.val (.int i0), .val (.long i1), .second, .val (.long i2), .second, .val (.long i3), .second, .val (.long i4), .second, .val (.long i5), .second, .val (.ref b1), .val (.ref b3), .unset, .unset, .unset, .unset, .unset, .unset] [(.long i3), (.int (2 : Int32)), (.ref b1)])
  refine Ends.callV (a := b1) (argsL := [(.int (2 : Int32)), (.long i3)]) (rest := []) X10 hx hZ hown (hw _ (List.mem_of_getElem? (i := 19) rfl)) (hw _ (List.mem_of_getElem? (i := 20) rfl)) (hw _ (List.mem_of_getElem? (i := 21) rfl)) (hw _ (List.mem_of_getElem? (i := 22) rfl)) (hw _ (List.mem_of_getElem? (i := 2) rfl)) (hw _ (List.mem_of_getElem? (i := 23) rfl)) (by decide) (con_4 l Z a0 hw b1 (2 : Int32) i3 ia10 ra10 b3 n10' 2 2 z10' fi10' fr10' (upd (upd (upd (upd (upd (fun _ => (0 : Int64)) 0 i1) 1 i2) 2 i3) 3 i4) 4 i5) T10.heap n0 Z10q E10q Fi10q Fr10q Fs10q Ai10q Ar10q Ac10q ne10q g_b1 gi10q gr10q hz10q (by omega) hs10q h810q (by decide) hp10q (by decide) rfl) rfl E10q (by rw [hml]; rfl) (hb hby at_62) (lenOf pd_4 rfl) 0 (Nat.le_of_eq rfl) (by decide) (by decide) (by decide) (by decide) ?_
  intro v T11 L11 X11 hQ
  obtain ⟨ia11, ra11, n11', z11', fi11', fr11', rfl, N11q, Z11q, E11q, Fi11q, Fr11q, Fs11q, Ai11q, Ar11q, Ac11q, ne11q, gi11q, gr11q, hz11q, hs11q, h811q, hp11q⟩ := hQ
  have N11 := Fr.app N10 N11q
  show Ends p e below _ T11 (mkF m 65 #[.val (.int i0), .val (.long i1), .second, .val (.long i2), .second, .val (.long i3), .second, .val (.long i4), .second, .val (.long i5), .second, .val (.ref b1), .val (.ref b3), .unset, .unset, .unset, .unset, .unset, .unset] [])
  refine Ends.by (fun _ => XS.aload X11.here hx rfl (hb hby at_65) rfl rfl) ?_
  show Ends p e below _ T11 (mkF m 67 #[.val (.int i0), .val (.long i1), .second, .val (.long i2), .second, .val (.long i3), .second, .val (.long i4), .second, .val (.long i5), .second, .val (.ref b1), .val (.ref b3), .unset, .unset, .unset, .unset, .unset, .unset] [(.ref b1)])
  refine Ends.by (fun _ => XS.iconst X11.here hx rfl (hb hby at_67)) ?_
  show Ends p e below _ T11 (mkF m 68 #[.val (.int i0), .val (.long i1), .second, .val (.long i2), .second, .val (.long i3), .second, .val (.long i4), .second, .val (.long i5), .second, .val (.ref b1), .val (.ref b3), .unset, .unset, .unset, .unset, .unset, .unset] [(.int (3 : Int32)), (.ref b1)])
  refine Ends.by (fun _ => XS.lload X11.here hx rfl (hb hby at_68) rfl) ?_
  show Ends p e below _ T11 (mkF m 70 #[.val (.int i0), .val (.long i1), .second, .val (.long i2), .second, .val (.long i3), .second, .val (.long i4), .second, .val (.long i5), .second, .val (.ref b1), .val (.ref b3), .unset, .unset, .unset, .unset, .unset, .unset] [(.long i4), (.int (3 : Int32)), (.ref b1)])
  refine Ends.callV (a := b1) (argsL := [(.int (3 : Int32)), (.long i4)]) (rest := []) X11 hx hZ hown (hw _ (List.mem_of_getElem? (i := 19) rfl)) (hw _ (List.mem_of_getElem? (i := 20) rfl)) (hw _ (List.mem_of_getElem? (i := 21) rfl)) (hw _ (List.mem_of_getElem? (i := 22) rfl)) (hw _ (List.mem_of_getElem? (i := 2) rfl)) (hw _ (List.mem_of_getElem? (i := 23) rfl)) (by decide) (con_4 l Z a0 hw b1 (3 : Int32) i4 ia11 ra11 b3 n11' 3 3 z11' fi11' fr11' (upd (upd (upd (upd (upd (fun _ => (0 : Int64)) 0 i1) 1 i2) 2 i3) 3 i4) 4 i5) T11.heap n0 Z11q E11q Fi11q Fr11q Fs11q Ai11q Ar11q Ac11q ne11q g_b1 gi11q gr11q hz11q (by omega) hs11q h811q (by decide) hp11q (by decide) rfl) rfl E11q (by rw [hml]; rfl) (hb hby at_70) (lenOf pd_4 rfl) 0 (Nat.le_of_eq rfl) (by decide) (by decide) (by decide) (by decide) ?_
  intro v T12 L12 X12 hQ
  obtain ⟨ia12, ra12, n12', z12', fi12', fr12', rfl, N12q, Z12q, E12q, Fi12q, Fr12q, Fs12q, Ai12q, Ar12q, Ac12q, ne12q, gi12q, gr12q, hz12q, hs12q, h812q, hp12q⟩ := hQ
  have N12 := Fr.app N11 N12q
  show Ends p e below _ T12 (mkF m 73 #[.val (.int i0), .val (.long i1), .second, .val (.long i2), .second, .val (.long i3), .second, .val (.long i4), .second, .val (.long i5), .second, .val (.ref b1), .val (.ref b3), .unset, .unset, .unset, .unset, .unset, .unset] [])
  refine Ends.by (fun _ => XS.aload X12.here hx rfl (hb hby at_73) rfl rfl) ?_
  show Ends p e below _ T12 (mkF m 75 #[.val (.int i0), .val (.long i1), .second, .val (.long i2), .second, .val (.long i3), .second, .val (.long i4), .second, .val (.long i5), .second, .val (.ref b1), .val (.ref b3), .unset, .unset, .unset, .unset, .unset, .unset] [(.ref b1)])
  refine Ends.by (fun _ => XS.iconst X12.here hx rfl (hb hby at_75)) ?_
  show Ends p e below _ T12 (mkF m 76 #[.val (.int i0), .val (.long i1), .second, .val (.long i2), .second, .val (.long i3), .second, .val (.long i4), .second, .val (.long i5), .second, .val (.ref b1), .val (.ref b3), .unset, .unset, .unset, .unset, .unset, .unset] [(.int (4 : Int32)), (.ref b1)])
  refine Ends.by (fun _ => XS.lload X12.here hx rfl (hb hby at_76) rfl) ?_
  show Ends p e below _ T12 (mkF m 78 #[.val (.int i0), .val (.long i1), .second, .val (.long i2), .second, .val (.long i3), .second, .val (.long i4), .second, .val (.long i5), .second, .val (.ref b1), .val (.ref b3), .unset, .unset, .unset, .unset, .unset, .unset] [(.long i5), (.int (4 : Int32)), (.ref b1)])
  refine Ends.callV (a := b1) (argsL := [(.int (4 : Int32)), (.long i5)]) (rest := []) X12 hx hZ hown (hw _ (List.mem_of_getElem? (i := 19) rfl)) (hw _ (List.mem_of_getElem? (i := 20) rfl)) (hw _ (List.mem_of_getElem? (i := 21) rfl)) (hw _ (List.mem_of_getElem? (i := 22) rfl)) (hw _ (List.mem_of_getElem? (i := 2) rfl)) (hw _ (List.mem_of_getElem? (i := 23) rfl)) (by decide) (con_4 l Z a0 hw b1 (4 : Int32) i5 ia12 ra12 b3 n12' 4 4 z12' fi12' fr12' (upd (upd (upd (upd (upd (fun _ => (0 : Int64)) 0 i1) 1 i2) 2 i3) 3 i4) 4 i5) T12.heap n0 Z12q E12q Fi12q Fr12q Fs12q Ai12q Ar12q Ac12q ne12q g_b1 gi12q gr12q hz12q (by omega) hs12q h812q (by decide) hp12q (by decide) rfl) rfl E12q (by rw [hml]; rfl) (hb hby at_78) (lenOf pd_4 rfl) 0 (Nat.le_of_eq rfl) (by decide) (by decide) (by decide) (by decide) ?_
  intro v T13 L13 X13 hQ
  obtain ⟨ia13, ra13, n13', z13', fi13', fr13', rfl, N13q, Z13q, E13q, Fi13q, Fr13q, Fs13q, Ai13q, Ar13q, Ac13q, ne13q, gi13q, gr13q, hz13q, hs13q, h813q, hp13q⟩ := hQ
  have N13 := Fr.app N12 N13q
  show Ends p e below _ T13 (mkF m 81 #[.val (.int i0), .val (.long i1), .second, .val (.long i2), .second, .val (.long i3), .second, .val (.long i4), .second, .val (.long i5), .second, .val (.ref b1), .val (.ref b3), .unset, .unset, .unset, .unset, .unset, .unset] [])
  refine Ends.by (fun _ => XS.aload X13.here hx rfl (hb hby at_81) rfl rfl) ?_
  show Ends p e below _ T13 (mkF m 83 #[.val (.int i0), .val (.long i1), .second, .val (.long i2), .second, .val (.long i3), .second, .val (.long i4), .second, .val (.long i5), .second, .val (.ref b1), .val (.ref b3), .unset, .unset, .unset, .unset, .unset, .unset] [(.ref b1)])
  refine Ends.callV (a := b1) (argsL := []) (rest := []) X13 hx hZ hown (hw _ (List.mem_of_getElem? (i := 40) rfl)) (hw _ (List.mem_of_getElem? (i := 41) rfl)) (hw _ (List.mem_of_getElem? (i := 42) rfl)) (hw _ (List.mem_of_getElem? (i := 43) rfl)) (hw _ (List.mem_of_getElem? (i := 2) rfl)) (hw _ (List.mem_of_getElem? (i := 44) rfl)) (by decide) (con_8 l Z a0 hw b1 ia13 ra13 b3 n13' 4 5 z13' fi13' fr13' (upd (upd (upd (upd (upd (fun _ => (0 : Int64)) 0 i1) 1 i2) 2 i3) 3 i4) 4 i5) T13.heap n0 Z13q E13q Fi13q Fr13q Fs13q Ai13q Ar13q Ac13q ne13q g_b1 gi13q gr13q hz13q (by omega) (by omega) hp13q) rfl E13q (by rw [hml]; rfl) (hb hby at_83) (lenOf pd_8 rfl) 0 (Nat.le_of_eq rfl) (by decide) (by decide) (by decide) (by decide) ?_
  intro v T14 L14 X14 hQ
  obtain ⟨ia14, ra14, n14', z14', fi14', fr14', rfl, N14q, Z14q, E14q, Fi14q, Fr14q, Fs14q, Ai14q, Ar14q, Ac14q, ne14q, gi14q, gr14q, hz14q, hs14q, h814q, hp14q, mm14q⟩ := hQ
  have N14 := Fr.app N13 N14q
  show Ends p e below _ T14 (mkF m 86 #[.val (.int i0), .val (.long i1), .second, .val (.long i2), .second, .val (.long i3), .second, .val (.long i4), .second, .val (.long i5), .second, .val (.ref b1), .val (.ref b3), .unset, .unset, .unset, .unset, .unset, .unset] [(.int (fi13' 0))])
  refine Ends.by (fun _ => XS.istore X14.here hx rfl (hb hby at_86) rfl (l' := #[.val (.int i0), .val (.long i1), .second, .val (.long i2), .second, .val (.long i3), .second, .val (.long i4), .second, .val (.long i5), .second, .val (.ref b1), .val (.ref b3), .val (.int (fi13' 0)), .unset, .unset, .unset, .unset, .unset]) rfl) ?_
  show Ends p e below _ T14 (mkF m 88 #[.val (.int i0), .val (.long i1), .second, .val (.long i2), .second, .val (.long i3), .second, .val (.long i4), .second, .val (.long i5), .second, .val (.ref b1), .val (.ref b3), .val (.int (fi13' 0)), .unset, .unset, .unset, .unset, .unset] [])
  refine Ends.by (fun _ => XS.aload X14.here hx rfl (hb hby at_88) rfl rfl) ?_
  show Ends p e below _ T14 (mkF m 90 #[.val (.int i0), .val (.long i1), .second, .val (.long i2), .second, .val (.long i3), .second, .val (.long i4), .second, .val (.long i5), .second, .val (.ref b1), .val (.ref b3), .val (.int (fi13' 0)), .unset, .unset, .unset, .unset, .unset] [(.ref b1)])
  refine Ends.callV (a := b1) (argsL := []) (rest := []) X14 hx hZ hown (hw _ (List.mem_of_getElem? (i := 40) rfl)) (hw _ (List.mem_of_getElem? (i := 41) rfl)) (hw _ (List.mem_of_getElem? (i := 42) rfl)) (hw _ (List.mem_of_getElem? (i := 43) rfl)) (hw _ (List.mem_of_getElem? (i := 2) rfl)) (hw _ (List.mem_of_getElem? (i := 44) rfl)) (by decide) (con_8 l Z a0 hw b1 ia14 ra14 b3 n14' 3 5 z14' fi14' fr14' (upd (upd (upd (upd (upd (fun _ => (0 : Int64)) 0 i1) 1 i2) 2 i3) 3 i4) 4 i5) T14.heap n0 Z14q E14q Fi14q Fr14q Fs14q Ai14q Ar14q Ac14q ne14q g_b1 gi14q gr14q hz14q (by omega) (by omega) hp14q) rfl E14q (by rw [hml]; rfl) (hb hby at_90) (lenOf pd_8 rfl) 0 (Nat.le_of_eq rfl) (by decide) (by decide) (by decide) (by decide) ?_
  intro v T15 L15 X15 hQ
  obtain ⟨ia15, ra15, n15', z15', fi15', fr15', rfl, N15q, Z15q, E15q, Fi15q, Fr15q, Fs15q, Ai15q, Ar15q, Ac15q, ne15q, gi15q, gr15q, hz15q, hs15q, h815q, hp15q, mm15q⟩ := hQ
  have N15 := Fr.app N14 N15q
  show Ends p e below _ T15 (mkF m 93 #[.val (.int i0), .val (.long i1), .second, .val (.long i2), .second, .val (.long i3), .second, .val (.long i4), .second, .val (.long i5), .second, .val (.ref b1), .val (.ref b3), .val (.int (fi13' 0)), .unset, .unset, .unset, .unset, .unset] [(.int (fi14' 0))])
  refine Ends.by (fun _ => XS.istore X15.here hx rfl (hb hby at_93) rfl (l' := #[.val (.int i0), .val (.long i1), .second, .val (.long i2), .second, .val (.long i3), .second, .val (.long i4), .second, .val (.long i5), .second, .val (.ref b1), .val (.ref b3), .val (.int (fi13' 0)), .val (.int (fi14' 0)), .unset, .unset, .unset, .unset]) rfl) ?_
  show Ends p e below _ T15 (mkF m 95 #[.val (.int i0), .val (.long i1), .second, .val (.long i2), .second, .val (.long i3), .second, .val (.long i4), .second, .val (.long i5), .second, .val (.ref b1), .val (.ref b3), .val (.int (fi13' 0)), .val (.int (fi14' 0)), .unset, .unset, .unset, .unset] [])
  refine Ends.by (fun _ => XS.aload X15.here hx rfl (hb hby at_95) rfl rfl) ?_
  show Ends p e below _ T15 (mkF m 97 #[.val (.int i0), .val (.long i1), .second, .val (.long i2), .second, .val (.long i3), .second, .val (.long i4), .second, .val (.long i5), .second, .val (.ref b1), .val (.ref b3), .val (.int (fi13' 0)), .val (.int (fi14' 0)), .unset, .unset, .unset, .unset] [(.ref b1)])
  refine Ends.callV (a := b1) (argsL := []) (rest := []) X15 hx hZ hown (hw _ (List.mem_of_getElem? (i := 40) rfl)) (hw _ (List.mem_of_getElem? (i := 41) rfl)) (hw _ (List.mem_of_getElem? (i := 42) rfl)) (hw _ (List.mem_of_getElem? (i := 43) rfl)) (hw _ (List.mem_of_getElem? (i := 2) rfl)) (hw _ (List.mem_of_getElem? (i := 44) rfl)) (by decide) (con_8 l Z a0 hw b1 ia15 ra15 b3 n15' 2 5 z15' fi15' fr15' (upd (upd (upd (upd (upd (fun _ => (0 : Int64)) 0 i1) 1 i2) 2 i3) 3 i4) 4 i5) T15.heap n0 Z15q E15q Fi15q Fr15q Fs15q Ai15q Ar15q Ac15q ne15q g_b1 gi15q gr15q hz15q (by omega) (by omega) hp15q) rfl E15q (by rw [hml]; rfl) (hb hby at_97) (lenOf pd_8 rfl) 0 (Nat.le_of_eq rfl) (by decide) (by decide) (by decide) (by decide) ?_
  intro v T16 L16 X16 hQ
  obtain ⟨ia16, ra16, n16', z16', fi16', fr16', rfl, N16q, Z16q, E16q, Fi16q, Fr16q, Fs16q, Ai16q, Ar16q, Ac16q, ne16q, gi16q, gr16q, hz16q, hs16q, h816q, hp16q, mm16q⟩ := hQ
  have N16 := Fr.app N15 N16q
  show Ends p e below _ T16 (mkF m 100 #[.val (.int i0), .val (.long i1), .second, .val (.long i2), .second, .val (.long i3), .second, .val (.long i4), .second, .val (.long i5), .second, .val (.ref b1), .val (.ref b3), .val (.int (fi13' 0)), .val (.int (fi14' 0)), .unset, .unset, .unset, .unset] [(.int (fi15' 0))])
  refine Ends.by (fun _ => XS.istore X16.here hx rfl (hb hby at_100) rfl (l' := #[.val (.int i0), .val (.long i1), .second, .val (.long i2), .second, .val (.long i3), .second, .val (.long i4), .second, .val (.long i5), .second, .val (.ref b1), .val (.ref b3), .val (.int (fi13' 0)), .val (.int (fi14' 0)), .val (.int (fi15' 0)), .unset, .unset, .unset]) rfl) ?_
  show Ends p e below _ T16 (mkF m 102 #[.val (.int i0), .val (.long i1), .second, .val (.long i2), .second, .val (.long i3), .second, .val (.long i4), .second, .val (.long i5), .second, .val (.ref b1), .val (.ref b3), .val (.int (fi13' 0)), .val (.int (fi14' 0)), .val (.int (fi15' 0)), .unset, .unset, .unset] [])
  refine Ends.by (fun _ => XS.aload X16.here hx rfl (hb hby at_102) rfl rfl) ?_
  show Ends p e below _ T16 (mkF m 104 #[.val (.int i0), .val (.long i1), .second, .val (.long i2), .second, .val (.long i3), .second, .val (.long i4), .second, .val (.long i5), .second, .val (.ref b1), .val (.ref b3), .val (.int (fi13' 0)), .val (.int (fi14' 0)), .val (.int (fi15' 0)), .unset, .unset, .unset] [(.ref b1)])
  refine Ends.callV (a := b1) (argsL := []) (rest := []) X16 hx hZ hown (hw _ (List.mem_of_getElem? (i := 40) rfl)) (hw _ (List.mem_of_getElem? (i := 41) rfl)) (hw _ (List.mem_of_getElem? (i := 42) rfl)) (hw _ (List.mem_of_getElem? (i := 43) rfl)) (hw _ (List.mem_of_getElem? (i := 2) rfl)) (hw _ (List.mem_of_getElem? (i := 44) rfl)) (by decide) (con_8 l Z a0 hw b1 ia16 ra16 b3 n16' 1 5 z16' fi16' fr16' (upd (upd (upd (upd (upd (fun _ => (0 : Int64)) 0 i1) 1 i2) 2 i3) 3 i4) 4 i5) T16.heap n0 Z16q E16q Fi16q Fr16q Fs16q Ai16q Ar16q Ac16q ne16q g_b1 gi16q gr16q hz16q (by omega) (by omega) hp16q) rfl E16q (by rw [hml]; rfl) (hb hby at_104) (lenOf pd_8 rfl) 0 (Nat.le_of_eq rfl) (by decide) (by decide) (by decide) (by decide) ?_
  intro v T17 L17 X17 hQ
  obtain ⟨ia17, ra17, n17', z17', fi17', fr17', rfl, N17q, Z17q, E17q, Fi17q, Fr17q, Fs17q, Ai17q, Ar17q, Ac17q, ne17q, gi17q, gr17q, hz17q, hs17q, h817q, hp17q, mm17q⟩ := hQ
  have N17 := Fr.app N16 N17q
  show Ends p e below _ T17 (mkF m 107 #[.val (.int i0), .val (.long i1), .second, .val (.long i2), .second, .val (.long i3), .second, .val (.long i4), .second, .val (.long i5), .second, .val (.ref b1), .val (.ref b3), .val (.int (fi13' 0)), .val (.int (fi14' 0)), .val (.int (fi15' 0)), .unset, .unset, .unset] [(.int (fi16' 0))])
  refine Ends.by (fun _ => XS.istore X17.here hx rfl (hb hby at_107) rfl (l' := #[.val (.int i0), .val (.long i1), .second, .val (.long i2), .second, .val (.long i3), .second, .val (.long i4), .second, .val (.long i5), .second, .val (.ref b1), .val (.ref b3), .val (.int (fi13' 0)), .val (.int (fi14' 0)), .val (.int (fi15' 0)), .val (.int (fi16' 0)), .unset, .unset]) rfl) ?_
  show Ends p e below _ T17 (mkF m 109 #[.val (.int i0), .val (.long i1), .second, .val (.long i2), .second, .val (.long i3), .second, .val (.long i4), .second, .val (.long i5), .second, .val (.ref b1), .val (.ref b3), .val (.int (fi13' 0)), .val (.int (fi14' 0)), .val (.int (fi15' 0)), .val (.int (fi16' 0)), .unset, .unset] [])
  refine Ends.by (fun _ => XS.aload X17.here hx rfl (hb hby at_109) rfl rfl) ?_
  show Ends p e below _ T17 (mkF m 111 #[.val (.int i0), .val (.long i1), .second, .val (.long i2), .second, .val (.long i3), .second, .val (.long i4), .second, .val (.long i5), .second, .val (.ref b1), .val (.ref b3), .val (.int (fi13' 0)), .val (.int (fi14' 0)), .val (.int (fi15' 0)), .val (.int (fi16' 0)), .unset, .unset] [(.ref b1)])
  refine Ends.callV (a := b1) (argsL := []) (rest := []) X17 hx hZ hown (hw _ (List.mem_of_getElem? (i := 40) rfl)) (hw _ (List.mem_of_getElem? (i := 41) rfl)) (hw _ (List.mem_of_getElem? (i := 42) rfl)) (hw _ (List.mem_of_getElem? (i := 43) rfl)) (hw _ (List.mem_of_getElem? (i := 2) rfl)) (hw _ (List.mem_of_getElem? (i := 44) rfl)) (by decide) (con_8 l Z a0 hw b1 ia17 ra17 b3 n17' 0 5 z17' fi17' fr17' (upd (upd (upd (upd (upd (fun _ => (0 : Int64)) 0 i1) 1 i2) 2 i3) 3 i4) 4 i5) T17.heap n0 Z17q E17q Fi17q Fr17q Fs17q Ai17q Ar17q Ac17q ne17q g_b1 gi17q gr17q hz17q (by omega) (by omega) hp17q) rfl E17q (by rw [hml]; rfl) (hb hby at_111) (lenOf pd_8 rfl) 0 (Nat.le_of_eq rfl) (by decide) (by decide) (by decide) (by decide) ?_
  intro v T18 L18 X18 hQ
  obtain ⟨ia18, ra18, n18', z18', fi18', fr18', rfl, N18q, Z18q, E18q, Fi18q, Fr18q, Fs18q, Ai18q, Ar18q, Ac18q, ne18q, gi18q, gr18q, hz18q, hs18q, h818q, hp18q, mm18q⟩ := hQ
  have N18 := Fr.app N17 N18q
  show Ends p e below _ T18 (mkF m 114 #[.val (.int i0), .val (.long i1), .second, .val (.long i2), .second, .val (.long i3), .second, .val (.long i4), .second, .val (.long i5), .second, .val (.ref b1), .val (.ref b3), .val (.int (fi13' 0)), .val (.int (fi14' 0)), .val (.int (fi15' 0)), .val (.int (fi16' 0)), .unset, .unset] [(.int (fi17' 0))])
  refine Ends.by (fun _ => XS.istore X18.here hx rfl (hb hby at_114) rfl (l' := #[.val (.int i0), .val (.long i1), .second, .val (.long i2), .second, .val (.long i3), .second, .val (.long i4), .second, .val (.long i5), .second, .val (.ref b1), .val (.ref b3), .val (.int (fi13' 0)), .val (.int (fi14' 0)), .val (.int (fi15' 0)), .val (.int (fi16' 0)), .val (.int (fi17' 0)), .unset]) rfl) ?_
  show Ends p e below _ T18 (mkF m 116 #[.val (.int i0), .val (.long i1), .second, .val (.long i2), .second, .val (.long i3), .second, .val (.long i4), .second, .val (.long i5), .second, .val (.ref b1), .val (.ref b3), .val (.int (fi13' 0)), .val (.int (fi14' 0)), .val (.int (fi15' 0)), .val (.int (fi16' 0)), .val (.int (fi17' 0)), .unset] [])
  have Cn := own_chain hp13q hp14q hp15q hp16q hp17q mm14q mm15q mm16q mm17q
  obtain ⟨t0, ht0⟩ : ∃ t, t = fi13' 0 := ⟨_, rfl⟩
  obtain ⟨t1, ht1⟩ : ∃ t, t = fi14' 0 := ⟨_, rfl⟩
  obtain ⟨t2, ht2⟩ : ∃ t, t = fi15' 0 := ⟨_, rfl⟩
  obtain ⟨t3, ht3⟩ : ∃ t, t = fi16' 0 := ⟨_, rfl⟩
  obtain ⟨t4, ht4⟩ : ∃ t, t = fi17' 0 := ⟨_, rfl⟩
  rw [← ht0, ← ht1, ← ht2, ← ht3, ← ht4] at Cn
  rw [← ht0, ← ht1, ← ht2, ← ht3, ← ht4]
  show Ends p e below _ T18 (mkF m 116 #[.val (.int i0), .val (.long i1), .second, .val (.long i2), .second, .val (.long i3), .second, .val (.long i4), .second, .val (.long i5), .second, .val (.ref b1), .val (.ref b3), .val (.int t0), .val (.int t1), .val (.int t2), .val (.int t3), .val (.int t4), .unset] [])
  refine Ends.by (fun _ => XS.iload X18.here hx rfl (hb hby at_116) rfl) ?_
  show Ends p e below _ T18 (mkF m 118 #[.val (.int i0), .val (.long i1), .second, .val (.long i2), .second, .val (.long i3), .second, .val (.long i4), .second, .val (.long i5), .second, .val (.ref b1), .val (.ref b3), .val (.int t0), .val (.int t1), .val (.int t2), .val (.int t3), .val (.int t4), .unset] [(.int t0)])
  refine Ends.callS (argsL := [(.int t0)]) (rest := []) X18 hx hZ hown (hw _ (List.mem_of_getElem? (i := 45) rfl)) (hw _ (List.mem_of_getElem? (i := 46) rfl)) (hw _ (List.mem_of_getElem? (i := 47) rfl)) (hw _ (List.mem_of_getElem? (i := 48) rfl)) (by decide) (con_9 l Z a0 hw t0 T18.heap) rfl (by rw [hml]; rfl) (hb hby at_118) (lenOf pd_9 rfl) 0 (Nat.le_of_eq rfl) (by decide) (by decide) (by decide) (by decide) ?_
  intro v T19 L19 X19 hQ
  obtain ⟨rfl, e19, rfl⟩ := hQ
  rw [List.append_nil] at X19
  show Ends p e below _ T19 (mkF m 121 #[.val (.int i0), .val (.long i1), .second, .val (.long i2), .second, .val (.long i3), .second, .val (.long i4), .second, .val (.long i5), .second, .val (.ref b1), .val (.ref b3), .val (.int t0), .val (.int t1), .val (.int t2), .val (.int t3), .val (.int t4), .unset] [(.int (f_9 t0))])
  refine Ends.ifc X19 hx (hb hby at_121) 156 (by decide) (by decide) (fun q => ?_) (fun q => ?_)
  · have c121 : (f_9 t0) = (0 : Int32) := own_eq.1 q
    exact absurd c121 (own_in Cn.1)
  · have c121 : ¬ ((f_9 t0) = (0 : Int32)) := own_eq.2 q
    show Ends p e below _ T19 (mkF m 124 #[.val (.int i0), .val (.long i1), .second, .val (.long i2), .second, .val (.long i3), .second, .val (.long i4), .second, .val (.long i5), .second, .val (.ref b1), .val (.ref b3), .val (.int t0), .val (.int t1), .val (.int t2), .val (.int t3), .val (.int t4), .unset] [])
    refine Ends.by (fun _ => XS.iload X19.here hx rfl (hb hby at_124) rfl) ?_
    show Ends p e below _ T19 (mkF m 126 #[.val (.int i0), .val (.long i1), .second, .val (.long i2), .second, .val (.long i3), .second, .val (.long i4), .second, .val (.long i5), .second, .val (.ref b1), .val (.ref b3), .val (.int t0), .val (.int t1), .val (.int t2), .val (.int t3), .val (.int t4), .unset] [(.int t1)])
    refine Ends.callS (argsL := [(.int t1)]) (rest := []) X19 hx hZ hown (hw _ (List.mem_of_getElem? (i := 45) rfl)) (hw _ (List.mem_of_getElem? (i := 46) rfl)) (hw _ (List.mem_of_getElem? (i := 47) rfl)) (hw _ (List.mem_of_getElem? (i := 48) rfl)) (by decide) (con_9 l Z a0 hw t1 T18.heap) e19 (by rw [hml]; rfl) (hb hby at_126) (lenOf pd_9 rfl) 0 (Nat.le_of_eq rfl) (by decide) (by decide) (by decide) (by decide) ?_
    intro v T20 L20 X20 hQ
    obtain ⟨rfl, e20, rfl⟩ := hQ
    rw [List.append_nil] at X20
    show Ends p e below _ T20 (mkF m 129 #[.val (.int i0), .val (.long i1), .second, .val (.long i2), .second, .val (.long i3), .second, .val (.long i4), .second, .val (.long i5), .second, .val (.ref b1), .val (.ref b3), .val (.int t0), .val (.int t1), .val (.int t2), .val (.int t3), .val (.int t4), .unset] [(.int (f_9 t1))])
    refine Ends.ifc X20 hx (hb hby at_129) 156 (by decide) (by decide) (fun q => ?_) (fun q => ?_)
    · have c129 : (f_9 t1) = (0 : Int32) := own_eq.1 q
      exact absurd c129 (own_in Cn.2.1)
    · have c129 : ¬ ((f_9 t1) = (0 : Int32)) := own_eq.2 q
      show Ends p e below _ T20 (mkF m 132 #[.val (.int i0), .val (.long i1), .second, .val (.long i2), .second, .val (.long i3), .second, .val (.long i4), .second, .val (.long i5), .second, .val (.ref b1), .val (.ref b3), .val (.int t0), .val (.int t1), .val (.int t2), .val (.int t3), .val (.int t4), .unset] [])
      refine Ends.by (fun _ => XS.iload X20.here hx rfl (hb hby at_132) rfl) ?_
      show Ends p e below _ T20 (mkF m 134 #[.val (.int i0), .val (.long i1), .second, .val (.long i2), .second, .val (.long i3), .second, .val (.long i4), .second, .val (.long i5), .second, .val (.ref b1), .val (.ref b3), .val (.int t0), .val (.int t1), .val (.int t2), .val (.int t3), .val (.int t4), .unset] [(.int t2)])
      refine Ends.callS (argsL := [(.int t2)]) (rest := []) X20 hx hZ hown (hw _ (List.mem_of_getElem? (i := 45) rfl)) (hw _ (List.mem_of_getElem? (i := 46) rfl)) (hw _ (List.mem_of_getElem? (i := 47) rfl)) (hw _ (List.mem_of_getElem? (i := 48) rfl)) (by decide) (con_9 l Z a0 hw t2 T18.heap) e20 (by rw [hml]; rfl) (hb hby at_134) (lenOf pd_9 rfl) 0 (Nat.le_of_eq rfl) (by decide) (by decide) (by decide) (by decide) ?_
      intro v T21 L21 X21 hQ
      obtain ⟨rfl, e21, rfl⟩ := hQ
      rw [List.append_nil] at X21
      show Ends p e below _ T21 (mkF m 137 #[.val (.int i0), .val (.long i1), .second, .val (.long i2), .second, .val (.long i3), .second, .val (.long i4), .second, .val (.long i5), .second, .val (.ref b1), .val (.ref b3), .val (.int t0), .val (.int t1), .val (.int t2), .val (.int t3), .val (.int t4), .unset] [(.int (f_9 t2))])
      refine Ends.ifc X21 hx (hb hby at_137) 156 (by decide) (by decide) (fun q => ?_) (fun q => ?_)
      · have c137 : (f_9 t2) = (0 : Int32) := own_eq.1 q
        exact absurd c137 (own_in Cn.2.2.1)
      · have c137 : ¬ ((f_9 t2) = (0 : Int32)) := own_eq.2 q
        show Ends p e below _ T21 (mkF m 140 #[.val (.int i0), .val (.long i1), .second, .val (.long i2), .second, .val (.long i3), .second, .val (.long i4), .second, .val (.long i5), .second, .val (.ref b1), .val (.ref b3), .val (.int t0), .val (.int t1), .val (.int t2), .val (.int t3), .val (.int t4), .unset] [])
        refine Ends.by (fun _ => XS.iload X21.here hx rfl (hb hby at_140) rfl) ?_
        show Ends p e below _ T21 (mkF m 142 #[.val (.int i0), .val (.long i1), .second, .val (.long i2), .second, .val (.long i3), .second, .val (.long i4), .second, .val (.long i5), .second, .val (.ref b1), .val (.ref b3), .val (.int t0), .val (.int t1), .val (.int t2), .val (.int t3), .val (.int t4), .unset] [(.int t3)])
        refine Ends.callS (argsL := [(.int t3)]) (rest := []) X21 hx hZ hown (hw _ (List.mem_of_getElem? (i := 45) rfl)) (hw _ (List.mem_of_getElem? (i := 46) rfl)) (hw _ (List.mem_of_getElem? (i := 47) rfl)) (hw _ (List.mem_of_getElem? (i := 48) rfl)) (by decide) (con_9 l Z a0 hw t3 T18.heap) e21 (by rw [hml]; rfl) (hb hby at_142) (lenOf pd_9 rfl) 0 (Nat.le_of_eq rfl) (by decide) (by decide) (by decide) (by decide) ?_
        intro v T22 L22 X22 hQ
        obtain ⟨rfl, e22, rfl⟩ := hQ
        rw [List.append_nil] at X22
        show Ends p e below _ T22 (mkF m 145 #[.val (.int i0), .val (.long i1), .second, .val (.long i2), .second, .val (.long i3), .second, .val (.long i4), .second, .val (.long i5), .second, .val (.ref b1), .val (.ref b3), .val (.int t0), .val (.int t1), .val (.int t2), .val (.int t3), .val (.int t4), .unset] [(.int (f_9 t3))])
        refine Ends.ifc X22 hx (hb hby at_145) 156 (by decide) (by decide) (fun q => ?_) (fun q => ?_)
        · have c145 : (f_9 t3) = (0 : Int32) := own_eq.1 q
          exact absurd c145 (own_in Cn.2.2.2.1)
        · have c145 : ¬ ((f_9 t3) = (0 : Int32)) := own_eq.2 q
          show Ends p e below _ T22 (mkF m 148 #[.val (.int i0), .val (.long i1), .second, .val (.long i2), .second, .val (.long i3), .second, .val (.long i4), .second, .val (.long i5), .second, .val (.ref b1), .val (.ref b3), .val (.int t0), .val (.int t1), .val (.int t2), .val (.int t3), .val (.int t4), .unset] [])
          refine Ends.by (fun _ => XS.iload X22.here hx rfl (hb hby at_148) rfl) ?_
          show Ends p e below _ T22 (mkF m 150 #[.val (.int i0), .val (.long i1), .second, .val (.long i2), .second, .val (.long i3), .second, .val (.long i4), .second, .val (.long i5), .second, .val (.ref b1), .val (.ref b3), .val (.int t0), .val (.int t1), .val (.int t2), .val (.int t3), .val (.int t4), .unset] [(.int t4)])
          refine Ends.callS (argsL := [(.int t4)]) (rest := []) X22 hx hZ hown (hw _ (List.mem_of_getElem? (i := 45) rfl)) (hw _ (List.mem_of_getElem? (i := 46) rfl)) (hw _ (List.mem_of_getElem? (i := 47) rfl)) (hw _ (List.mem_of_getElem? (i := 48) rfl)) (by decide) (con_9 l Z a0 hw t4 T18.heap) e22 (by rw [hml]; rfl) (hb hby at_150) (lenOf pd_9 rfl) 0 (Nat.le_of_eq rfl) (by decide) (by decide) (by decide) (by decide) ?_
          intro v T23 L23 X23 hQ
          obtain ⟨rfl, e23, rfl⟩ := hQ
          rw [List.append_nil] at X23
          show Ends p e below _ T23 (mkF m 153 #[.val (.int i0), .val (.long i1), .second, .val (.long i2), .second, .val (.long i3), .second, .val (.long i4), .second, .val (.long i5), .second, .val (.ref b1), .val (.ref b3), .val (.int t0), .val (.int t1), .val (.int t2), .val (.int t3), .val (.int t4), .unset] [(.int (f_9 t4))])
          refine Ends.ifc X23 hx (hb hby at_153) 158 (by decide) (by decide) (fun q => ?_) (fun q => ?_)
          · have c153 : ¬ ((f_9 t4) = (0 : Int32)) := own_ne.1 q
            show Ends p e below _ T23 (mkF m 158 #[.val (.int i0), .val (.long i1), .second, .val (.long i2), .second, .val (.long i3), .second, .val (.long i4), .second, .val (.long i5), .second, .val (.ref b1), .val (.ref b3), .val (.int t0), .val (.int t1), .val (.int t2), .val (.int t3), .val (.int t4), .unset] [])
            refine Ends.by (fun _ => XS.iconst X23.here hx rfl (hb hby at_158)) ?_
            show Ends p e below _ T23 (mkF m 159 #[.val (.int i0), .val (.long i1), .second, .val (.long i2), .second, .val (.long i3), .second, .val (.long i4), .second, .val (.long i5), .second, .val (.ref b1), .val (.ref b3), .val (.int t0), .val (.int t1), .val (.int t2), .val (.int t3), .val (.int t4), .unset] [(.int (1 : Int32))])
            refine Ends.by (fun _ => XS.iload X23.here hx rfl (hb hby at_159) rfl) ?_
            show Ends p e below _ T23 (mkF m 161 #[.val (.int i0), .val (.long i1), .second, .val (.long i2), .second, .val (.long i3), .second, .val (.long i4), .second, .val (.long i5), .second, .val (.ref b1), .val (.ref b3), .val (.int t0), .val (.int t1), .val (.int t2), .val (.int t3), .val (.int t4), .unset] [(.int t0), (.int (1 : Int32))])
            refine Ends.by (fun _ => XS.ishl X23.here hx rfl (hb hby at_161) rfl) ?_
            show Ends p e below _ T23 (mkF m 162 #[.val (.int i0), .val (.long i1), .second, .val (.long i2), .second, .val (.long i3), .second, .val (.long i4), .second, .val (.long i5), .second, .val (.ref b1), .val (.ref b3), .val (.int t0), .val (.int t1), .val (.int t2), .val (.int t3), .val (.int t4), .unset] [(.int ((1 : Int32) <<< (t0 &&& 31)))])
            refine Ends.by (fun _ => XS.iconst X23.here hx rfl (hb hby at_162)) ?_
            show Ends p e below _ T23 (mkF m 163 #[.val (.int i0), .val (.long i1), .second, .val (.long i2), .second, .val (.long i3), .second, .val (.long i4), .second, .val (.long i5), .second, .val (.ref b1), .val (.ref b3), .val (.int t0), .val (.int t1), .val (.int t2), .val (.int t3), .val (.int t4), .unset] [(.int (1 : Int32)), (.int ((1 : Int32) <<< (t0 &&& 31)))])
            refine Ends.by (fun _ => XS.iload X23.here hx rfl (hb hby at_163) rfl) ?_
            show Ends p e below _ T23 (mkF m 165 #[.val (.int i0), .val (.long i1), .second, .val (.long i2), .second, .val (.long i3), .second, .val (.long i4), .second, .val (.long i5), .second, .val (.ref b1), .val (.ref b3), .val (.int t0), .val (.int t1), .val (.int t2), .val (.int t3), .val (.int t4), .unset] [(.int t1), (.int (1 : Int32)), (.int ((1 : Int32) <<< (t0 &&& 31)))])
            refine Ends.by (fun _ => XS.ishl X23.here hx rfl (hb hby at_165) rfl) ?_
            show Ends p e below _ T23 (mkF m 166 #[.val (.int i0), .val (.long i1), .second, .val (.long i2), .second, .val (.long i3), .second, .val (.long i4), .second, .val (.long i5), .second, .val (.ref b1), .val (.ref b3), .val (.int t0), .val (.int t1), .val (.int t2), .val (.int t3), .val (.int t4), .unset] [(.int ((1 : Int32) <<< (t1 &&& 31))), (.int ((1 : Int32) <<< (t0 &&& 31)))])
            refine Ends.by (fun _ => XS.ior X23.here hx rfl (hb hby at_166) rfl) ?_
            show Ends p e below _ T23 (mkF m 167 #[.val (.int i0), .val (.long i1), .second, .val (.long i2), .second, .val (.long i3), .second, .val (.long i4), .second, .val (.long i5), .second, .val (.ref b1), .val (.ref b3), .val (.int t0), .val (.int t1), .val (.int t2), .val (.int t3), .val (.int t4), .unset] [(.int (((1 : Int32) <<< (t0 &&& 31)) ||| ((1 : Int32) <<< (t1 &&& 31))))])
            refine Ends.by (fun _ => XS.iconst X23.here hx rfl (hb hby at_167)) ?_
            show Ends p e below _ T23 (mkF m 168 #[.val (.int i0), .val (.long i1), .second, .val (.long i2), .second, .val (.long i3), .second, .val (.long i4), .second, .val (.long i5), .second, .val (.ref b1), .val (.ref b3), .val (.int t0), .val (.int t1), .val (.int t2), .val (.int t3), .val (.int t4), .unset] [(.int (1 : Int32)), (.int (((1 : Int32) <<< (t0 &&& 31)) ||| ((1 : Int32) <<< (t1 &&& 31))))])
            refine Ends.by (fun _ => XS.iload X23.here hx rfl (hb hby at_168) rfl) ?_
            show Ends p e below _ T23 (mkF m 170 #[.val (.int i0), .val (.long i1), .second, .val (.long i2), .second, .val (.long i3), .second, .val (.long i4), .second, .val (.long i5), .second, .val (.ref b1), .val (.ref b3), .val (.int t0), .val (.int t1), .val (.int t2), .val (.int t3), .val (.int t4), .unset] [(.int t2), (.int (1 : Int32)), (.int (((1 : Int32) <<< (t0 &&& 31)) ||| ((1 : Int32) <<< (t1 &&& 31))))])
            refine Ends.by (fun _ => XS.ishl X23.here hx rfl (hb hby at_170) rfl) ?_
            show Ends p e below _ T23 (mkF m 171 #[.val (.int i0), .val (.long i1), .second, .val (.long i2), .second, .val (.long i3), .second, .val (.long i4), .second, .val (.long i5), .second, .val (.ref b1), .val (.ref b3), .val (.int t0), .val (.int t1), .val (.int t2), .val (.int t3), .val (.int t4), .unset] [(.int ((1 : Int32) <<< (t2 &&& 31))), (.int (((1 : Int32) <<< (t0 &&& 31)) ||| ((1 : Int32) <<< (t1 &&& 31))))])
            refine Ends.by (fun _ => XS.ior X23.here hx rfl (hb hby at_171) rfl) ?_
            show Ends p e below _ T23 (mkF m 172 #[.val (.int i0), .val (.long i1), .second, .val (.long i2), .second, .val (.long i3), .second, .val (.long i4), .second, .val (.long i5), .second, .val (.ref b1), .val (.ref b3), .val (.int t0), .val (.int t1), .val (.int t2), .val (.int t3), .val (.int t4), .unset] [(.int ((((1 : Int32) <<< (t0 &&& 31)) ||| ((1 : Int32) <<< (t1 &&& 31))) ||| ((1 : Int32) <<< (t2 &&& 31))))])
            refine Ends.by (fun _ => XS.iconst X23.here hx rfl (hb hby at_172)) ?_
            show Ends p e below _ T23 (mkF m 173 #[.val (.int i0), .val (.long i1), .second, .val (.long i2), .second, .val (.long i3), .second, .val (.long i4), .second, .val (.long i5), .second, .val (.ref b1), .val (.ref b3), .val (.int t0), .val (.int t1), .val (.int t2), .val (.int t3), .val (.int t4), .unset] [(.int (1 : Int32)), (.int ((((1 : Int32) <<< (t0 &&& 31)) ||| ((1 : Int32) <<< (t1 &&& 31))) ||| ((1 : Int32) <<< (t2 &&& 31))))])
            refine Ends.by (fun _ => XS.iload X23.here hx rfl (hb hby at_173) rfl) ?_
            show Ends p e below _ T23 (mkF m 175 #[.val (.int i0), .val (.long i1), .second, .val (.long i2), .second, .val (.long i3), .second, .val (.long i4), .second, .val (.long i5), .second, .val (.ref b1), .val (.ref b3), .val (.int t0), .val (.int t1), .val (.int t2), .val (.int t3), .val (.int t4), .unset] [(.int t3), (.int (1 : Int32)), (.int ((((1 : Int32) <<< (t0 &&& 31)) ||| ((1 : Int32) <<< (t1 &&& 31))) ||| ((1 : Int32) <<< (t2 &&& 31))))])
            refine Ends.by (fun _ => XS.ishl X23.here hx rfl (hb hby at_175) rfl) ?_
            show Ends p e below _ T23 (mkF m 176 #[.val (.int i0), .val (.long i1), .second, .val (.long i2), .second, .val (.long i3), .second, .val (.long i4), .second, .val (.long i5), .second, .val (.ref b1), .val (.ref b3), .val (.int t0), .val (.int t1), .val (.int t2), .val (.int t3), .val (.int t4), .unset] [(.int ((1 : Int32) <<< (t3 &&& 31))), (.int ((((1 : Int32) <<< (t0 &&& 31)) ||| ((1 : Int32) <<< (t1 &&& 31))) ||| ((1 : Int32) <<< (t2 &&& 31))))])
            refine Ends.by (fun _ => XS.ior X23.here hx rfl (hb hby at_176) rfl) ?_
            show Ends p e below _ T23 (mkF m 177 #[.val (.int i0), .val (.long i1), .second, .val (.long i2), .second, .val (.long i3), .second, .val (.long i4), .second, .val (.long i5), .second, .val (.ref b1), .val (.ref b3), .val (.int t0), .val (.int t1), .val (.int t2), .val (.int t3), .val (.int t4), .unset] [(.int (((((1 : Int32) <<< (t0 &&& 31)) ||| ((1 : Int32) <<< (t1 &&& 31))) ||| ((1 : Int32) <<< (t2 &&& 31))) ||| ((1 : Int32) <<< (t3 &&& 31))))])
            refine Ends.by (fun _ => XS.iconst X23.here hx rfl (hb hby at_177)) ?_
            show Ends p e below _ T23 (mkF m 178 #[.val (.int i0), .val (.long i1), .second, .val (.long i2), .second, .val (.long i3), .second, .val (.long i4), .second, .val (.long i5), .second, .val (.ref b1), .val (.ref b3), .val (.int t0), .val (.int t1), .val (.int t2), .val (.int t3), .val (.int t4), .unset] [(.int (1 : Int32)), (.int (((((1 : Int32) <<< (t0 &&& 31)) ||| ((1 : Int32) <<< (t1 &&& 31))) ||| ((1 : Int32) <<< (t2 &&& 31))) ||| ((1 : Int32) <<< (t3 &&& 31))))])
            refine Ends.by (fun _ => XS.iload X23.here hx rfl (hb hby at_178) rfl) ?_
            show Ends p e below _ T23 (mkF m 180 #[.val (.int i0), .val (.long i1), .second, .val (.long i2), .second, .val (.long i3), .second, .val (.long i4), .second, .val (.long i5), .second, .val (.ref b1), .val (.ref b3), .val (.int t0), .val (.int t1), .val (.int t2), .val (.int t3), .val (.int t4), .unset] [(.int t4), (.int (1 : Int32)), (.int (((((1 : Int32) <<< (t0 &&& 31)) ||| ((1 : Int32) <<< (t1 &&& 31))) ||| ((1 : Int32) <<< (t2 &&& 31))) ||| ((1 : Int32) <<< (t3 &&& 31))))])
            refine Ends.by (fun _ => XS.ishl X23.here hx rfl (hb hby at_180) rfl) ?_
            show Ends p e below _ T23 (mkF m 181 #[.val (.int i0), .val (.long i1), .second, .val (.long i2), .second, .val (.long i3), .second, .val (.long i4), .second, .val (.long i5), .second, .val (.ref b1), .val (.ref b3), .val (.int t0), .val (.int t1), .val (.int t2), .val (.int t3), .val (.int t4), .unset] [(.int ((1 : Int32) <<< (t4 &&& 31))), (.int (((((1 : Int32) <<< (t0 &&& 31)) ||| ((1 : Int32) <<< (t1 &&& 31))) ||| ((1 : Int32) <<< (t2 &&& 31))) ||| ((1 : Int32) <<< (t3 &&& 31))))])
            refine Ends.by (fun _ => XS.ior X23.here hx rfl (hb hby at_181) rfl) ?_
            show Ends p e below _ T23 (mkF m 182 #[.val (.int i0), .val (.long i1), .second, .val (.long i2), .second, .val (.long i3), .second, .val (.long i4), .second, .val (.long i5), .second, .val (.ref b1), .val (.ref b3), .val (.int t0), .val (.int t1), .val (.int t2), .val (.int t3), .val (.int t4), .unset] [(.int ((((((1 : Int32) <<< (t0 &&& 31)) ||| ((1 : Int32) <<< (t1 &&& 31))) ||| ((1 : Int32) <<< (t2 &&& 31))) ||| ((1 : Int32) <<< (t3 &&& 31))) ||| ((1 : Int32) <<< (t4 &&& 31))))])
            refine Ends.by (fun _ => XS.istore X23.here hx rfl (hb hby at_182) rfl (l' := #[.val (.int i0), .val (.long i1), .second, .val (.long i2), .second, .val (.long i3), .second, .val (.long i4), .second, .val (.long i5), .second, .val (.ref b1), .val (.ref b3), .val (.int t0), .val (.int t1), .val (.int t2), .val (.int t3), .val (.int t4), .val (.int ((((((1 : Int32) <<< (t0 &&& 31)) ||| ((1 : Int32) <<< (t1 &&& 31))) ||| ((1 : Int32) <<< (t2 &&& 31))) ||| ((1 : Int32) <<< (t3 &&& 31))) ||| ((1 : Int32) <<< (t4 &&& 31))))]) rfl) ?_
            show Ends p e below _ T23 (mkF m 184 #[.val (.int i0), .val (.long i1), .second, .val (.long i2), .second, .val (.long i3), .second, .val (.long i4), .second, .val (.long i5), .second, .val (.ref b1), .val (.ref b3), .val (.int t0), .val (.int t1), .val (.int t2), .val (.int t3), .val (.int t4), .val (.int ((((((1 : Int32) <<< (t0 &&& 31)) ||| ((1 : Int32) <<< (t1 &&& 31))) ||| ((1 : Int32) <<< (t2 &&& 31))) ||| ((1 : Int32) <<< (t3 &&& 31))) ||| ((1 : Int32) <<< (t4 &&& 31))))] [])
            refine Ends.by (fun _ => XS.iload X23.here hx rfl (hb hby at_184) rfl) ?_
            show Ends p e below _ T23 (mkF m 186 #[.val (.int i0), .val (.long i1), .second, .val (.long i2), .second, .val (.long i3), .second, .val (.long i4), .second, .val (.long i5), .second, .val (.ref b1), .val (.ref b3), .val (.int t0), .val (.int t1), .val (.int t2), .val (.int t3), .val (.int t4), .val (.int ((((((1 : Int32) <<< (t0 &&& 31)) ||| ((1 : Int32) <<< (t1 &&& 31))) ||| ((1 : Int32) <<< (t2 &&& 31))) ||| ((1 : Int32) <<< (t3 &&& 31))) ||| ((1 : Int32) <<< (t4 &&& 31))))] [(.int ((((((1 : Int32) <<< (t0 &&& 31)) ||| ((1 : Int32) <<< (t1 &&& 31))) ||| ((1 : Int32) <<< (t2 &&& 31))) ||| ((1 : Int32) <<< (t3 &&& 31))) ||| ((1 : Int32) <<< (t4 &&& 31))))])
            refine Ends.by (fun _ => XS.bipush X23.here hx rfl (hb hby at_186)) ?_
            show Ends p e below _ T23 (mkF m 188 #[.val (.int i0), .val (.long i1), .second, .val (.long i2), .second, .val (.long i3), .second, .val (.long i4), .second, .val (.long i5), .second, .val (.ref b1), .val (.ref b3), .val (.int t0), .val (.int t1), .val (.int t2), .val (.int t3), .val (.int t4), .val (.int ((((((1 : Int32) <<< (t0 &&& 31)) ||| ((1 : Int32) <<< (t1 &&& 31))) ||| ((1 : Int32) <<< (t2 &&& 31))) ||| ((1 : Int32) <<< (t3 &&& 31))) ||| ((1 : Int32) <<< (t4 &&& 31))))] [(.int (31 : Int32)), (.int ((((((1 : Int32) <<< (t0 &&& 31)) ||| ((1 : Int32) <<< (t1 &&& 31))) ||| ((1 : Int32) <<< (t2 &&& 31))) ||| ((1 : Int32) <<< (t3 &&& 31))) ||| ((1 : Int32) <<< (t4 &&& 31))))])
            refine Ends.icmp X23 hx (hb hby at_188) 193 (by decide) (by decide) (fun q => ?_) (fun q => ?_)
            · have c188 : ((((((1 : Int32) <<< (t0 &&& 31)) ||| ((1 : Int32) <<< (t1 &&& 31))) ||| ((1 : Int32) <<< (t2 &&& 31))) ||| ((1 : Int32) <<< (t3 &&& 31))) ||| ((1 : Int32) <<< (t4 &&& 31))) = (31 : Int32) := own_eq.1 q
              show Ends p e below _ T23 (mkF m 193 #[.val (.int i0), .val (.long i1), .second, .val (.long i2), .second, .val (.long i3), .second, .val (.long i4), .second, .val (.long i5), .second, .val (.ref b1), .val (.ref b3), .val (.int t0), .val (.int t1), .val (.int t2), .val (.int t3), .val (.int t4), .val (.int ((((((1 : Int32) <<< (t0 &&& 31)) ||| ((1 : Int32) <<< (t1 &&& 31))) ||| ((1 : Int32) <<< (t2 &&& 31))) ||| ((1 : Int32) <<< (t3 &&& 31))) ||| ((1 : Int32) <<< (t4 &&& 31))))] [])
              refine Ends.by (fun _ => XS.aload X23.here hx rfl (hb hby at_193) rfl rfl) ?_
              show Ends p e below _ T23 (mkF m 195 #[.val (.int i0), .val (.long i1), .second, .val (.long i2), .second, .val (.long i3), .second, .val (.long i4), .second, .val (.long i5), .second, .val (.ref b1), .val (.ref b3), .val (.int t0), .val (.int t1), .val (.int t2), .val (.int t3), .val (.int t4), .val (.int ((((((1 : Int32) <<< (t0 &&& 31)) ||| ((1 : Int32) <<< (t1 &&& 31))) ||| ((1 : Int32) <<< (t2 &&& 31))) ||| ((1 : Int32) <<< (t3 &&& 31))) ||| ((1 : Int32) <<< (t4 &&& 31))))] [(.ref b3)])
              refine Ends.by (fun _ => XS.iload X23.here hx rfl (hb hby at_195) rfl) ?_
              show Ends p e below _ T23 (mkF m 197 #[.val (.int i0), .val (.long i1), .second, .val (.long i2), .second, .val (.long i3), .second, .val (.long i4), .second, .val (.long i5), .second, .val (.ref b1), .val (.ref b3), .val (.int t0), .val (.int t1), .val (.int t2), .val (.int t3), .val (.int t4), .val (.int ((((((1 : Int32) <<< (t0 &&& 31)) ||| ((1 : Int32) <<< (t1 &&& 31))) ||| ((1 : Int32) <<< (t2 &&& 31))) ||| ((1 : Int32) <<< (t3 &&& 31))) ||| ((1 : Int32) <<< (t4 &&& 31))))] [(.int t0), (.ref b3)])
              refine Ends.ldJ X23 hx hZ e23 Ac18q (k := t0.toInt.toNat) (own_tn Cn.1) (own_tl Cn.1) (v := (.long ((upd (upd (upd (upd (upd (fun _ => (0 : Int64)) 0 i1) 1 i2) 2 i3) 3 i4) 4 i5) t0.toInt.toNat))) rfl (hb hby at_197) ?_
              show Ends p e below _ T23 (mkF m 198 #[.val (.int i0), .val (.long i1), .second, .val (.long i2), .second, .val (.long i3), .second, .val (.long i4), .second, .val (.long i5), .second, .val (.ref b1), .val (.ref b3), .val (.int t0), .val (.int t1), .val (.int t2), .val (.int t3), .val (.int t4), .val (.int ((((((1 : Int32) <<< (t0 &&& 31)) ||| ((1 : Int32) <<< (t1 &&& 31))) ||| ((1 : Int32) <<< (t2 &&& 31))) ||| ((1 : Int32) <<< (t3 &&& 31))) ||| ((1 : Int32) <<< (t4 &&& 31))))] [(.long ((upd (upd (upd (upd (upd (fun _ => (0 : Int64)) 0 i1) 1 i2) 2 i3) 3 i4) 4 i5) t0.toInt.toNat))])
              refine Ends.by (fun _ => XS.aload X23.here hx rfl (hb hby at_198) rfl rfl) ?_
              show Ends p e below _ T23 (mkF m 200 #[.val (.int i0), .val (.long i1), .second, .val (.long i2), .second, .val (.long i3), .second, .val (.long i4), .second, .val (.long i5), .second, .val (.ref b1), .val (.ref b3), .val (.int t0), .val (.int t1), .val (.int t2), .val (.int t3), .val (.int t4), .val (.int ((((((1 : Int32) <<< (t0 &&& 31)) ||| ((1 : Int32) <<< (t1 &&& 31))) ||| ((1 : Int32) <<< (t2 &&& 31))) ||| ((1 : Int32) <<< (t3 &&& 31))) ||| ((1 : Int32) <<< (t4 &&& 31))))] [(.ref b3), (.long ((upd (upd (upd (upd (upd (fun _ => (0 : Int64)) 0 i1) 1 i2) 2 i3) 3 i4) 4 i5) t0.toInt.toNat))])
              refine Ends.by (fun _ => XS.iload X23.here hx rfl (hb hby at_200) rfl) ?_
              show Ends p e below _ T23 (mkF m 202 #[.val (.int i0), .val (.long i1), .second, .val (.long i2), .second, .val (.long i3), .second, .val (.long i4), .second, .val (.long i5), .second, .val (.ref b1), .val (.ref b3), .val (.int t0), .val (.int t1), .val (.int t2), .val (.int t3), .val (.int t4), .val (.int ((((((1 : Int32) <<< (t0 &&& 31)) ||| ((1 : Int32) <<< (t1 &&& 31))) ||| ((1 : Int32) <<< (t2 &&& 31))) ||| ((1 : Int32) <<< (t3 &&& 31))) ||| ((1 : Int32) <<< (t4 &&& 31))))] [(.int t1), (.ref b3), (.long ((upd (upd (upd (upd (upd (fun _ => (0 : Int64)) 0 i1) 1 i2) 2 i3) 3 i4) 4 i5) t0.toInt.toNat))])
              refine Ends.ldJ X23 hx hZ e23 Ac18q (k := t1.toInt.toNat) (own_tn Cn.2.1) (own_tl Cn.2.1) (v := (.long ((upd (upd (upd (upd (upd (fun _ => (0 : Int64)) 0 i1) 1 i2) 2 i3) 3 i4) 4 i5) t1.toInt.toNat))) rfl (hb hby at_202) ?_
              show Ends p e below _ T23 (mkF m 203 #[.val (.int i0), .val (.long i1), .second, .val (.long i2), .second, .val (.long i3), .second, .val (.long i4), .second, .val (.long i5), .second, .val (.ref b1), .val (.ref b3), .val (.int t0), .val (.int t1), .val (.int t2), .val (.int t3), .val (.int t4), .val (.int ((((((1 : Int32) <<< (t0 &&& 31)) ||| ((1 : Int32) <<< (t1 &&& 31))) ||| ((1 : Int32) <<< (t2 &&& 31))) ||| ((1 : Int32) <<< (t3 &&& 31))) ||| ((1 : Int32) <<< (t4 &&& 31))))] [(.long ((upd (upd (upd (upd (upd (fun _ => (0 : Int64)) 0 i1) 1 i2) 2 i3) 3 i4) 4 i5) t1.toInt.toNat)), (.long ((upd (upd (upd (upd (upd (fun _ => (0 : Int64)) 0 i1) 1 i2) 2 i3) 3 i4) 4 i5) t0.toInt.toNat))])
              refine Ends.by (fun _ => XS.lcmp X23.here hx rfl (hb hby at_203) rfl) ?_
              show Ends p e below _ T23 (mkF m 204 #[.val (.int i0), .val (.long i1), .second, .val (.long i2), .second, .val (.long i3), .second, .val (.long i4), .second, .val (.long i5), .second, .val (.ref b1), .val (.ref b3), .val (.int t0), .val (.int t1), .val (.int t2), .val (.int t3), .val (.int t4), .val (.int ((((((1 : Int32) <<< (t0 &&& 31)) ||| ((1 : Int32) <<< (t1 &&& 31))) ||| ((1 : Int32) <<< (t2 &&& 31))) ||| ((1 : Int32) <<< (t3 &&& 31))) ||| ((1 : Int32) <<< (t4 &&& 31))))] [(.int (lcmpW ((upd (upd (upd (upd (upd (fun _ => (0 : Int64)) 0 i1) 1 i2) 2 i3) 3 i4) 4 i5) t0.toInt.toNat) ((upd (upd (upd (upd (upd (fun _ => (0 : Int64)) 0 i1) 1 i2) 2 i3) 3 i4) 4 i5) t1.toInt.toNat)))])
              refine Ends.ifc X23 hx (hb hby at_204) 253 (by decide) (by decide) (fun q => ?_) (fun q => ?_)
              · have c204 : (0 : Int32) < (lcmpW ((upd (upd (upd (upd (upd (fun _ => (0 : Int64)) 0 i1) 1 i2) 2 i3) 3 i4) 4 i5) t0.toInt.toNat) ((upd (upd (upd (upd (upd (fun _ => (0 : Int64)) 0 i1) 1 i2) 2 i3) 3 i4) 4 i5) t1.toInt.toNat)) := own_gt.1 q
                exact absurd (own_gw.mp c204) (own_sorted0 Cn)
              · have c204 : ¬ ((0 : Int32) < (lcmpW ((upd (upd (upd (upd (upd (fun _ => (0 : Int64)) 0 i1) 1 i2) 2 i3) 3 i4) 4 i5) t0.toInt.toNat) ((upd (upd (upd (upd (upd (fun _ => (0 : Int64)) 0 i1) 1 i2) 2 i3) 3 i4) 4 i5) t1.toInt.toNat))) := own_gt.2 q
                show Ends p e below _ T23 (mkF m 207 #[.val (.int i0), .val (.long i1), .second, .val (.long i2), .second, .val (.long i3), .second, .val (.long i4), .second, .val (.long i5), .second, .val (.ref b1), .val (.ref b3), .val (.int t0), .val (.int t1), .val (.int t2), .val (.int t3), .val (.int t4), .val (.int ((((((1 : Int32) <<< (t0 &&& 31)) ||| ((1 : Int32) <<< (t1 &&& 31))) ||| ((1 : Int32) <<< (t2 &&& 31))) ||| ((1 : Int32) <<< (t3 &&& 31))) ||| ((1 : Int32) <<< (t4 &&& 31))))] [])
                refine Ends.by (fun _ => XS.aload X23.here hx rfl (hb hby at_207) rfl rfl) ?_
                show Ends p e below _ T23 (mkF m 209 #[.val (.int i0), .val (.long i1), .second, .val (.long i2), .second, .val (.long i3), .second, .val (.long i4), .second, .val (.long i5), .second, .val (.ref b1), .val (.ref b3), .val (.int t0), .val (.int t1), .val (.int t2), .val (.int t3), .val (.int t4), .val (.int ((((((1 : Int32) <<< (t0 &&& 31)) ||| ((1 : Int32) <<< (t1 &&& 31))) ||| ((1 : Int32) <<< (t2 &&& 31))) ||| ((1 : Int32) <<< (t3 &&& 31))) ||| ((1 : Int32) <<< (t4 &&& 31))))] [(.ref b3)])
                refine Ends.by (fun _ => XS.iload X23.here hx rfl (hb hby at_209) rfl) ?_
                show Ends p e below _ T23 (mkF m 211 #[.val (.int i0), .val (.long i1), .second, .val (.long i2), .second, .val (.long i3), .second, .val (.long i4), .second, .val (.long i5), .second, .val (.ref b1), .val (.ref b3), .val (.int t0), .val (.int t1), .val (.int t2), .val (.int t3), .val (.int t4), .val (.int ((((((1 : Int32) <<< (t0 &&& 31)) ||| ((1 : Int32) <<< (t1 &&& 31))) ||| ((1 : Int32) <<< (t2 &&& 31))) ||| ((1 : Int32) <<< (t3 &&& 31))) ||| ((1 : Int32) <<< (t4 &&& 31))))] [(.int t1), (.ref b3)])
                refine Ends.ldJ X23 hx hZ e23 Ac18q (k := t1.toInt.toNat) (own_tn Cn.2.1) (own_tl Cn.2.1) (v := (.long ((upd (upd (upd (upd (upd (fun _ => (0 : Int64)) 0 i1) 1 i2) 2 i3) 3 i4) 4 i5) t1.toInt.toNat))) rfl (hb hby at_211) ?_
                show Ends p e below _ T23 (mkF m 212 #[.val (.int i0), .val (.long i1), .second, .val (.long i2), .second, .val (.long i3), .second, .val (.long i4), .second, .val (.long i5), .second, .val (.ref b1), .val (.ref b3), .val (.int t0), .val (.int t1), .val (.int t2), .val (.int t3), .val (.int t4), .val (.int ((((((1 : Int32) <<< (t0 &&& 31)) ||| ((1 : Int32) <<< (t1 &&& 31))) ||| ((1 : Int32) <<< (t2 &&& 31))) ||| ((1 : Int32) <<< (t3 &&& 31))) ||| ((1 : Int32) <<< (t4 &&& 31))))] [(.long ((upd (upd (upd (upd (upd (fun _ => (0 : Int64)) 0 i1) 1 i2) 2 i3) 3 i4) 4 i5) t1.toInt.toNat))])
                refine Ends.by (fun _ => XS.aload X23.here hx rfl (hb hby at_212) rfl rfl) ?_
                show Ends p e below _ T23 (mkF m 214 #[.val (.int i0), .val (.long i1), .second, .val (.long i2), .second, .val (.long i3), .second, .val (.long i4), .second, .val (.long i5), .second, .val (.ref b1), .val (.ref b3), .val (.int t0), .val (.int t1), .val (.int t2), .val (.int t3), .val (.int t4), .val (.int ((((((1 : Int32) <<< (t0 &&& 31)) ||| ((1 : Int32) <<< (t1 &&& 31))) ||| ((1 : Int32) <<< (t2 &&& 31))) ||| ((1 : Int32) <<< (t3 &&& 31))) ||| ((1 : Int32) <<< (t4 &&& 31))))] [(.ref b3), (.long ((upd (upd (upd (upd (upd (fun _ => (0 : Int64)) 0 i1) 1 i2) 2 i3) 3 i4) 4 i5) t1.toInt.toNat))])
                refine Ends.by (fun _ => XS.iload X23.here hx rfl (hb hby at_214) rfl) ?_
                show Ends p e below _ T23 (mkF m 216 #[.val (.int i0), .val (.long i1), .second, .val (.long i2), .second, .val (.long i3), .second, .val (.long i4), .second, .val (.long i5), .second, .val (.ref b1), .val (.ref b3), .val (.int t0), .val (.int t1), .val (.int t2), .val (.int t3), .val (.int t4), .val (.int ((((((1 : Int32) <<< (t0 &&& 31)) ||| ((1 : Int32) <<< (t1 &&& 31))) ||| ((1 : Int32) <<< (t2 &&& 31))) ||| ((1 : Int32) <<< (t3 &&& 31))) ||| ((1 : Int32) <<< (t4 &&& 31))))] [(.int t2), (.ref b3), (.long ((upd (upd (upd (upd (upd (fun _ => (0 : Int64)) 0 i1) 1 i2) 2 i3) 3 i4) 4 i5) t1.toInt.toNat))])
                refine Ends.ldJ X23 hx hZ e23 Ac18q (k := t2.toInt.toNat) (own_tn Cn.2.2.1) (own_tl Cn.2.2.1) (v := (.long ((upd (upd (upd (upd (upd (fun _ => (0 : Int64)) 0 i1) 1 i2) 2 i3) 3 i4) 4 i5) t2.toInt.toNat))) rfl (hb hby at_216) ?_
                show Ends p e below _ T23 (mkF m 217 #[.val (.int i0), .val (.long i1), .second, .val (.long i2), .second, .val (.long i3), .second, .val (.long i4), .second, .val (.long i5), .second, .val (.ref b1), .val (.ref b3), .val (.int t0), .val (.int t1), .val (.int t2), .val (.int t3), .val (.int t4), .val (.int ((((((1 : Int32) <<< (t0 &&& 31)) ||| ((1 : Int32) <<< (t1 &&& 31))) ||| ((1 : Int32) <<< (t2 &&& 31))) ||| ((1 : Int32) <<< (t3 &&& 31))) ||| ((1 : Int32) <<< (t4 &&& 31))))] [(.long ((upd (upd (upd (upd (upd (fun _ => (0 : Int64)) 0 i1) 1 i2) 2 i3) 3 i4) 4 i5) t2.toInt.toNat)), (.long ((upd (upd (upd (upd (upd (fun _ => (0 : Int64)) 0 i1) 1 i2) 2 i3) 3 i4) 4 i5) t1.toInt.toNat))])
                refine Ends.by (fun _ => XS.lcmp X23.here hx rfl (hb hby at_217) rfl) ?_
                show Ends p e below _ T23 (mkF m 218 #[.val (.int i0), .val (.long i1), .second, .val (.long i2), .second, .val (.long i3), .second, .val (.long i4), .second, .val (.long i5), .second, .val (.ref b1), .val (.ref b3), .val (.int t0), .val (.int t1), .val (.int t2), .val (.int t3), .val (.int t4), .val (.int ((((((1 : Int32) <<< (t0 &&& 31)) ||| ((1 : Int32) <<< (t1 &&& 31))) ||| ((1 : Int32) <<< (t2 &&& 31))) ||| ((1 : Int32) <<< (t3 &&& 31))) ||| ((1 : Int32) <<< (t4 &&& 31))))] [(.int (lcmpW ((upd (upd (upd (upd (upd (fun _ => (0 : Int64)) 0 i1) 1 i2) 2 i3) 3 i4) 4 i5) t1.toInt.toNat) ((upd (upd (upd (upd (upd (fun _ => (0 : Int64)) 0 i1) 1 i2) 2 i3) 3 i4) 4 i5) t2.toInt.toNat)))])
                refine Ends.ifc X23 hx (hb hby at_218) 253 (by decide) (by decide) (fun q => ?_) (fun q => ?_)
                · have c218 : (0 : Int32) < (lcmpW ((upd (upd (upd (upd (upd (fun _ => (0 : Int64)) 0 i1) 1 i2) 2 i3) 3 i4) 4 i5) t1.toInt.toNat) ((upd (upd (upd (upd (upd (fun _ => (0 : Int64)) 0 i1) 1 i2) 2 i3) 3 i4) 4 i5) t2.toInt.toNat)) := own_gt.1 q
                  exact absurd (own_gw.mp c218) (own_sorted1 Cn)
                · have c218 : ¬ ((0 : Int32) < (lcmpW ((upd (upd (upd (upd (upd (fun _ => (0 : Int64)) 0 i1) 1 i2) 2 i3) 3 i4) 4 i5) t1.toInt.toNat) ((upd (upd (upd (upd (upd (fun _ => (0 : Int64)) 0 i1) 1 i2) 2 i3) 3 i4) 4 i5) t2.toInt.toNat))) := own_gt.2 q
                  show Ends p e below _ T23 (mkF m 221 #[.val (.int i0), .val (.long i1), .second, .val (.long i2), .second, .val (.long i3), .second, .val (.long i4), .second, .val (.long i5), .second, .val (.ref b1), .val (.ref b3), .val (.int t0), .val (.int t1), .val (.int t2), .val (.int t3), .val (.int t4), .val (.int ((((((1 : Int32) <<< (t0 &&& 31)) ||| ((1 : Int32) <<< (t1 &&& 31))) ||| ((1 : Int32) <<< (t2 &&& 31))) ||| ((1 : Int32) <<< (t3 &&& 31))) ||| ((1 : Int32) <<< (t4 &&& 31))))] [])
                  refine Ends.by (fun _ => XS.aload X23.here hx rfl (hb hby at_221) rfl rfl) ?_
                  show Ends p e below _ T23 (mkF m 223 #[.val (.int i0), .val (.long i1), .second, .val (.long i2), .second, .val (.long i3), .second, .val (.long i4), .second, .val (.long i5), .second, .val (.ref b1), .val (.ref b3), .val (.int t0), .val (.int t1), .val (.int t2), .val (.int t3), .val (.int t4), .val (.int ((((((1 : Int32) <<< (t0 &&& 31)) ||| ((1 : Int32) <<< (t1 &&& 31))) ||| ((1 : Int32) <<< (t2 &&& 31))) ||| ((1 : Int32) <<< (t3 &&& 31))) ||| ((1 : Int32) <<< (t4 &&& 31))))] [(.ref b3)])
                  refine Ends.by (fun _ => XS.iload X23.here hx rfl (hb hby at_223) rfl) ?_
                  show Ends p e below _ T23 (mkF m 225 #[.val (.int i0), .val (.long i1), .second, .val (.long i2), .second, .val (.long i3), .second, .val (.long i4), .second, .val (.long i5), .second, .val (.ref b1), .val (.ref b3), .val (.int t0), .val (.int t1), .val (.int t2), .val (.int t3), .val (.int t4), .val (.int ((((((1 : Int32) <<< (t0 &&& 31)) ||| ((1 : Int32) <<< (t1 &&& 31))) ||| ((1 : Int32) <<< (t2 &&& 31))) ||| ((1 : Int32) <<< (t3 &&& 31))) ||| ((1 : Int32) <<< (t4 &&& 31))))] [(.int t2), (.ref b3)])
                  refine Ends.ldJ X23 hx hZ e23 Ac18q (k := t2.toInt.toNat) (own_tn Cn.2.2.1) (own_tl Cn.2.2.1) (v := (.long ((upd (upd (upd (upd (upd (fun _ => (0 : Int64)) 0 i1) 1 i2) 2 i3) 3 i4) 4 i5) t2.toInt.toNat))) rfl (hb hby at_225) ?_
                  show Ends p e below _ T23 (mkF m 226 #[.val (.int i0), .val (.long i1), .second, .val (.long i2), .second, .val (.long i3), .second, .val (.long i4), .second, .val (.long i5), .second, .val (.ref b1), .val (.ref b3), .val (.int t0), .val (.int t1), .val (.int t2), .val (.int t3), .val (.int t4), .val (.int ((((((1 : Int32) <<< (t0 &&& 31)) ||| ((1 : Int32) <<< (t1 &&& 31))) ||| ((1 : Int32) <<< (t2 &&& 31))) ||| ((1 : Int32) <<< (t3 &&& 31))) ||| ((1 : Int32) <<< (t4 &&& 31))))] [(.long ((upd (upd (upd (upd (upd (fun _ => (0 : Int64)) 0 i1) 1 i2) 2 i3) 3 i4) 4 i5) t2.toInt.toNat))])
                  refine Ends.by (fun _ => XS.aload X23.here hx rfl (hb hby at_226) rfl rfl) ?_
                  show Ends p e below _ T23 (mkF m 228 #[.val (.int i0), .val (.long i1), .second, .val (.long i2), .second, .val (.long i3), .second, .val (.long i4), .second, .val (.long i5), .second, .val (.ref b1), .val (.ref b3), .val (.int t0), .val (.int t1), .val (.int t2), .val (.int t3), .val (.int t4), .val (.int ((((((1 : Int32) <<< (t0 &&& 31)) ||| ((1 : Int32) <<< (t1 &&& 31))) ||| ((1 : Int32) <<< (t2 &&& 31))) ||| ((1 : Int32) <<< (t3 &&& 31))) ||| ((1 : Int32) <<< (t4 &&& 31))))] [(.ref b3), (.long ((upd (upd (upd (upd (upd (fun _ => (0 : Int64)) 0 i1) 1 i2) 2 i3) 3 i4) 4 i5) t2.toInt.toNat))])
                  refine Ends.by (fun _ => XS.iload X23.here hx rfl (hb hby at_228) rfl) ?_
                  show Ends p e below _ T23 (mkF m 230 #[.val (.int i0), .val (.long i1), .second, .val (.long i2), .second, .val (.long i3), .second, .val (.long i4), .second, .val (.long i5), .second, .val (.ref b1), .val (.ref b3), .val (.int t0), .val (.int t1), .val (.int t2), .val (.int t3), .val (.int t4), .val (.int ((((((1 : Int32) <<< (t0 &&& 31)) ||| ((1 : Int32) <<< (t1 &&& 31))) ||| ((1 : Int32) <<< (t2 &&& 31))) ||| ((1 : Int32) <<< (t3 &&& 31))) ||| ((1 : Int32) <<< (t4 &&& 31))))] [(.int t3), (.ref b3), (.long ((upd (upd (upd (upd (upd (fun _ => (0 : Int64)) 0 i1) 1 i2) 2 i3) 3 i4) 4 i5) t2.toInt.toNat))])
                  refine Ends.ldJ X23 hx hZ e23 Ac18q (k := t3.toInt.toNat) (own_tn Cn.2.2.2.1) (own_tl Cn.2.2.2.1) (v := (.long ((upd (upd (upd (upd (upd (fun _ => (0 : Int64)) 0 i1) 1 i2) 2 i3) 3 i4) 4 i5) t3.toInt.toNat))) rfl (hb hby at_230) ?_
                  show Ends p e below _ T23 (mkF m 231 #[.val (.int i0), .val (.long i1), .second, .val (.long i2), .second, .val (.long i3), .second, .val (.long i4), .second, .val (.long i5), .second, .val (.ref b1), .val (.ref b3), .val (.int t0), .val (.int t1), .val (.int t2), .val (.int t3), .val (.int t4), .val (.int ((((((1 : Int32) <<< (t0 &&& 31)) ||| ((1 : Int32) <<< (t1 &&& 31))) ||| ((1 : Int32) <<< (t2 &&& 31))) ||| ((1 : Int32) <<< (t3 &&& 31))) ||| ((1 : Int32) <<< (t4 &&& 31))))] [(.long ((upd (upd (upd (upd (upd (fun _ => (0 : Int64)) 0 i1) 1 i2) 2 i3) 3 i4) 4 i5) t3.toInt.toNat)), (.long ((upd (upd (upd (upd (upd (fun _ => (0 : Int64)) 0 i1) 1 i2) 2 i3) 3 i4) 4 i5) t2.toInt.toNat))])
                  refine Ends.by (fun _ => XS.lcmp X23.here hx rfl (hb hby at_231) rfl) ?_
                  show Ends p e below _ T23 (mkF m 232 #[.val (.int i0), .val (.long i1), .second, .val (.long i2), .second, .val (.long i3), .second, .val (.long i4), .second, .val (.long i5), .second, .val (.ref b1), .val (.ref b3), .val (.int t0), .val (.int t1), .val (.int t2), .val (.int t3), .val (.int t4), .val (.int ((((((1 : Int32) <<< (t0 &&& 31)) ||| ((1 : Int32) <<< (t1 &&& 31))) ||| ((1 : Int32) <<< (t2 &&& 31))) ||| ((1 : Int32) <<< (t3 &&& 31))) ||| ((1 : Int32) <<< (t4 &&& 31))))] [(.int (lcmpW ((upd (upd (upd (upd (upd (fun _ => (0 : Int64)) 0 i1) 1 i2) 2 i3) 3 i4) 4 i5) t2.toInt.toNat) ((upd (upd (upd (upd (upd (fun _ => (0 : Int64)) 0 i1) 1 i2) 2 i3) 3 i4) 4 i5) t3.toInt.toNat)))])
                  refine Ends.ifc X23 hx (hb hby at_232) 253 (by decide) (by decide) (fun q => ?_) (fun q => ?_)
                  · have c232 : (0 : Int32) < (lcmpW ((upd (upd (upd (upd (upd (fun _ => (0 : Int64)) 0 i1) 1 i2) 2 i3) 3 i4) 4 i5) t2.toInt.toNat) ((upd (upd (upd (upd (upd (fun _ => (0 : Int64)) 0 i1) 1 i2) 2 i3) 3 i4) 4 i5) t3.toInt.toNat)) := own_gt.1 q
                    exact absurd (own_gw.mp c232) (own_sorted2 Cn)
                  · have c232 : ¬ ((0 : Int32) < (lcmpW ((upd (upd (upd (upd (upd (fun _ => (0 : Int64)) 0 i1) 1 i2) 2 i3) 3 i4) 4 i5) t2.toInt.toNat) ((upd (upd (upd (upd (upd (fun _ => (0 : Int64)) 0 i1) 1 i2) 2 i3) 3 i4) 4 i5) t3.toInt.toNat))) := own_gt.2 q
                    show Ends p e below _ T23 (mkF m 235 #[.val (.int i0), .val (.long i1), .second, .val (.long i2), .second, .val (.long i3), .second, .val (.long i4), .second, .val (.long i5), .second, .val (.ref b1), .val (.ref b3), .val (.int t0), .val (.int t1), .val (.int t2), .val (.int t3), .val (.int t4), .val (.int ((((((1 : Int32) <<< (t0 &&& 31)) ||| ((1 : Int32) <<< (t1 &&& 31))) ||| ((1 : Int32) <<< (t2 &&& 31))) ||| ((1 : Int32) <<< (t3 &&& 31))) ||| ((1 : Int32) <<< (t4 &&& 31))))] [])
                    refine Ends.by (fun _ => XS.aload X23.here hx rfl (hb hby at_235) rfl rfl) ?_
                    show Ends p e below _ T23 (mkF m 237 #[.val (.int i0), .val (.long i1), .second, .val (.long i2), .second, .val (.long i3), .second, .val (.long i4), .second, .val (.long i5), .second, .val (.ref b1), .val (.ref b3), .val (.int t0), .val (.int t1), .val (.int t2), .val (.int t3), .val (.int t4), .val (.int ((((((1 : Int32) <<< (t0 &&& 31)) ||| ((1 : Int32) <<< (t1 &&& 31))) ||| ((1 : Int32) <<< (t2 &&& 31))) ||| ((1 : Int32) <<< (t3 &&& 31))) ||| ((1 : Int32) <<< (t4 &&& 31))))] [(.ref b3)])
                    refine Ends.by (fun _ => XS.iload X23.here hx rfl (hb hby at_237) rfl) ?_
                    show Ends p e below _ T23 (mkF m 239 #[.val (.int i0), .val (.long i1), .second, .val (.long i2), .second, .val (.long i3), .second, .val (.long i4), .second, .val (.long i5), .second, .val (.ref b1), .val (.ref b3), .val (.int t0), .val (.int t1), .val (.int t2), .val (.int t3), .val (.int t4), .val (.int ((((((1 : Int32) <<< (t0 &&& 31)) ||| ((1 : Int32) <<< (t1 &&& 31))) ||| ((1 : Int32) <<< (t2 &&& 31))) ||| ((1 : Int32) <<< (t3 &&& 31))) ||| ((1 : Int32) <<< (t4 &&& 31))))] [(.int t3), (.ref b3)])
                    refine Ends.ldJ X23 hx hZ e23 Ac18q (k := t3.toInt.toNat) (own_tn Cn.2.2.2.1) (own_tl Cn.2.2.2.1) (v := (.long ((upd (upd (upd (upd (upd (fun _ => (0 : Int64)) 0 i1) 1 i2) 2 i3) 3 i4) 4 i5) t3.toInt.toNat))) rfl (hb hby at_239) ?_
                    show Ends p e below _ T23 (mkF m 240 #[.val (.int i0), .val (.long i1), .second, .val (.long i2), .second, .val (.long i3), .second, .val (.long i4), .second, .val (.long i5), .second, .val (.ref b1), .val (.ref b3), .val (.int t0), .val (.int t1), .val (.int t2), .val (.int t3), .val (.int t4), .val (.int ((((((1 : Int32) <<< (t0 &&& 31)) ||| ((1 : Int32) <<< (t1 &&& 31))) ||| ((1 : Int32) <<< (t2 &&& 31))) ||| ((1 : Int32) <<< (t3 &&& 31))) ||| ((1 : Int32) <<< (t4 &&& 31))))] [(.long ((upd (upd (upd (upd (upd (fun _ => (0 : Int64)) 0 i1) 1 i2) 2 i3) 3 i4) 4 i5) t3.toInt.toNat))])
                    refine Ends.by (fun _ => XS.aload X23.here hx rfl (hb hby at_240) rfl rfl) ?_
                    show Ends p e below _ T23 (mkF m 242 #[.val (.int i0), .val (.long i1), .second, .val (.long i2), .second, .val (.long i3), .second, .val (.long i4), .second, .val (.long i5), .second, .val (.ref b1), .val (.ref b3), .val (.int t0), .val (.int t1), .val (.int t2), .val (.int t3), .val (.int t4), .val (.int ((((((1 : Int32) <<< (t0 &&& 31)) ||| ((1 : Int32) <<< (t1 &&& 31))) ||| ((1 : Int32) <<< (t2 &&& 31))) ||| ((1 : Int32) <<< (t3 &&& 31))) ||| ((1 : Int32) <<< (t4 &&& 31))))] [(.ref b3), (.long ((upd (upd (upd (upd (upd (fun _ => (0 : Int64)) 0 i1) 1 i2) 2 i3) 3 i4) 4 i5) t3.toInt.toNat))])
                    refine Ends.by (fun _ => XS.iload X23.here hx rfl (hb hby at_242) rfl) ?_
                    show Ends p e below _ T23 (mkF m 244 #[.val (.int i0), .val (.long i1), .second, .val (.long i2), .second, .val (.long i3), .second, .val (.long i4), .second, .val (.long i5), .second, .val (.ref b1), .val (.ref b3), .val (.int t0), .val (.int t1), .val (.int t2), .val (.int t3), .val (.int t4), .val (.int ((((((1 : Int32) <<< (t0 &&& 31)) ||| ((1 : Int32) <<< (t1 &&& 31))) ||| ((1 : Int32) <<< (t2 &&& 31))) ||| ((1 : Int32) <<< (t3 &&& 31))) ||| ((1 : Int32) <<< (t4 &&& 31))))] [(.int t4), (.ref b3), (.long ((upd (upd (upd (upd (upd (fun _ => (0 : Int64)) 0 i1) 1 i2) 2 i3) 3 i4) 4 i5) t3.toInt.toNat))])
                    refine Ends.ldJ X23 hx hZ e23 Ac18q (k := t4.toInt.toNat) (own_tn Cn.2.2.2.2.1) (own_tl Cn.2.2.2.2.1) (v := (.long ((upd (upd (upd (upd (upd (fun _ => (0 : Int64)) 0 i1) 1 i2) 2 i3) 3 i4) 4 i5) t4.toInt.toNat))) rfl (hb hby at_244) ?_
                    show Ends p e below _ T23 (mkF m 245 #[.val (.int i0), .val (.long i1), .second, .val (.long i2), .second, .val (.long i3), .second, .val (.long i4), .second, .val (.long i5), .second, .val (.ref b1), .val (.ref b3), .val (.int t0), .val (.int t1), .val (.int t2), .val (.int t3), .val (.int t4), .val (.int ((((((1 : Int32) <<< (t0 &&& 31)) ||| ((1 : Int32) <<< (t1 &&& 31))) ||| ((1 : Int32) <<< (t2 &&& 31))) ||| ((1 : Int32) <<< (t3 &&& 31))) ||| ((1 : Int32) <<< (t4 &&& 31))))] [(.long ((upd (upd (upd (upd (upd (fun _ => (0 : Int64)) 0 i1) 1 i2) 2 i3) 3 i4) 4 i5) t4.toInt.toNat)), (.long ((upd (upd (upd (upd (upd (fun _ => (0 : Int64)) 0 i1) 1 i2) 2 i3) 3 i4) 4 i5) t3.toInt.toNat))])
                    refine Ends.by (fun _ => XS.lcmp X23.here hx rfl (hb hby at_245) rfl) ?_
                    show Ends p e below _ T23 (mkF m 246 #[.val (.int i0), .val (.long i1), .second, .val (.long i2), .second, .val (.long i3), .second, .val (.long i4), .second, .val (.long i5), .second, .val (.ref b1), .val (.ref b3), .val (.int t0), .val (.int t1), .val (.int t2), .val (.int t3), .val (.int t4), .val (.int ((((((1 : Int32) <<< (t0 &&& 31)) ||| ((1 : Int32) <<< (t1 &&& 31))) ||| ((1 : Int32) <<< (t2 &&& 31))) ||| ((1 : Int32) <<< (t3 &&& 31))) ||| ((1 : Int32) <<< (t4 &&& 31))))] [(.int (lcmpW ((upd (upd (upd (upd (upd (fun _ => (0 : Int64)) 0 i1) 1 i2) 2 i3) 3 i4) 4 i5) t3.toInt.toNat) ((upd (upd (upd (upd (upd (fun _ => (0 : Int64)) 0 i1) 1 i2) 2 i3) 3 i4) 4 i5) t4.toInt.toNat)))])
                    refine Ends.ifc X23 hx (hb hby at_246) 253 (by decide) (by decide) (fun q => ?_) (fun q => ?_)
                    · have c246 : (0 : Int32) < (lcmpW ((upd (upd (upd (upd (upd (fun _ => (0 : Int64)) 0 i1) 1 i2) 2 i3) 3 i4) 4 i5) t3.toInt.toNat) ((upd (upd (upd (upd (upd (fun _ => (0 : Int64)) 0 i1) 1 i2) 2 i3) 3 i4) 4 i5) t4.toInt.toNat)) := own_gt.1 q
                      exact absurd (own_gw.mp c246) (own_sorted3 Cn)
                    · have c246 : ¬ ((0 : Int32) < (lcmpW ((upd (upd (upd (upd (upd (fun _ => (0 : Int64)) 0 i1) 1 i2) 2 i3) 3 i4) 4 i5) t3.toInt.toNat) ((upd (upd (upd (upd (upd (fun _ => (0 : Int64)) 0 i1) 1 i2) 2 i3) 3 i4) 4 i5) t4.toInt.toNat))) := own_gt.2 q
                      show Ends p e below _ T23 (mkF m 249 #[.val (.int i0), .val (.long i1), .second, .val (.long i2), .second, .val (.long i3), .second, .val (.long i4), .second, .val (.long i5), .second, .val (.ref b1), .val (.ref b3), .val (.int t0), .val (.int t1), .val (.int t2), .val (.int t3), .val (.int t4), .val (.int ((((((1 : Int32) <<< (t0 &&& 31)) ||| ((1 : Int32) <<< (t1 &&& 31))) ||| ((1 : Int32) <<< (t2 &&& 31))) ||| ((1 : Int32) <<< (t3 &&& 31))) ||| ((1 : Int32) <<< (t4 &&& 31))))] [])
                      refine Ends.by (fun _ => XS.iconst X23.here hx rfl (hb hby at_249)) ?_
                      show Ends p e below _ T23 (mkF m 250 #[.val (.int i0), .val (.long i1), .second, .val (.long i2), .second, .val (.long i3), .second, .val (.long i4), .second, .val (.long i5), .second, .val (.ref b1), .val (.ref b3), .val (.int t0), .val (.int t1), .val (.int t2), .val (.int t3), .val (.int t4), .val (.int ((((((1 : Int32) <<< (t0 &&& 31)) ||| ((1 : Int32) <<< (t1 &&& 31))) ||| ((1 : Int32) <<< (t2 &&& 31))) ||| ((1 : Int32) <<< (t3 &&& 31))) ||| ((1 : Int32) <<< (t4 &&& 31))))] [(.int (1 : Int32))])
                      refine Ends.by (fun _ => XS.goto X23.here hx rfl (pc0 := 250) (pc' := 254) rfl (hb hby at_250) (by decide) (by decide)) ?_
                      show Ends p e below _ T23 (mkF m 254 #[.val (.int i0), .val (.long i1), .second, .val (.long i2), .second, .val (.long i3), .second, .val (.long i4), .second, .val (.long i5), .second, .val (.ref b1), .val (.ref b3), .val (.int t0), .val (.int t1), .val (.int t2), .val (.int t3), .val (.int t4), .val (.int ((((((1 : Int32) <<< (t0 &&& 31)) ||| ((1 : Int32) <<< (t1 &&& 31))) ||| ((1 : Int32) <<< (t2 &&& 31))) ||| ((1 : Int32) <<< (t3 &&& 31))) ||| ((1 : Int32) <<< (t4 &&& 31))))] [(.int (1 : Int32))])
                      exact Ends.retZ X23 hx hlk hret (hb hby at_254) (by first | decide | (simp; done)) (by decide) (by decide) (⟨rfl, N18⟩)
            · have c188 : ¬ (((((((1 : Int32) <<< (t0 &&& 31)) ||| ((1 : Int32) <<< (t1 &&& 31))) ||| ((1 : Int32) <<< (t2 &&& 31))) ||| ((1 : Int32) <<< (t3 &&& 31))) ||| ((1 : Int32) <<< (t4 &&& 31))) = (31 : Int32)) := own_eq.2 q
              exact absurd (own_mask Cn) c188
          · have c153 : (f_9 t4) = (0 : Int32) := own_ne.2 q
            exact absurd c153 (own_in Cn.2.2.2.2.1)
set_option maxRecDepth 65536 in
set_option maxHeartbeats 40000000 in
theorem comes_1 {Post : Tables → Env → Array Value → State → Outcome → State → Prop} (hpost : ∀ tb e args s v u, (limb_1_1.after args s (.returned v) u = true ∧ limb_1_2.after args s (.returned v) u = true) → FrameEnd s (.returned v) u (Jvm.fieldLocs frame_1_writes args s ++ Jvm.arrayLocs frame_1_arrays args s ++ Jvm.staticLocs frame_1_statics s) 32 192 → Post tb e args s (.returned v) u) :
    ArmFor flags0 classFile x code maxLocals ret World_1 tables_1 room_1 Calls_1 rest_1 Pre_1 Post := by
  intro l hfl _ _ p e ha hc hk s m args below hf hA hF happ hP
  obtain ⟨hcalls, hrest, hpre⟩ := hP
  obtain ⟨-, -, -, hnamed, -, -, -, hat⟩ := (Spec.applies_iff hf).mp happ
  obtain ⟨hg, hn⟩ := and_e (Cond.before_iff.mp (show (Jvm.Cond.and given_1 narrow_1).before args s = true from hpre))
  obtain ⟨hcount, g0⟩ := and_e hg
  obtain ⟨k0, g1⟩ := and_e g0
  obtain ⟨k1, g2⟩ := and_e g1
  obtain ⟨k2, g3⟩ := and_e g2
  obtain ⟨k3, g4⟩ := and_e g3
  obtain ⟨k4, g5⟩ := and_e g4
  obtain ⟨w0, w1, w2, w3, w4, w5, rfl⟩ : ∃ w0 w1 w2 w3 w4 w5 : Value, args = #[w0, w1, w2, w3, w4, w5] := by
    have hs : args.size = 6 := by simpa [Cond.value, given_1] using hcount
    obtain ⟨L⟩ := args
    match L, hs with
    | [w0, w1, w2, w3, w4, w5], _ => exact ⟨w0, w1, w2, w3, w4, w5, rfl⟩
  have hw := fun d (hd : d ∈ tables_1) => atoms_spec (ws := Jvm.Cond.code x code maxLocals ret :: tables_1) hat d (List.mem_cons_of_mem _ hd)
  obtain ⟨i0, ei0⟩ := is_v k0
  obtain rfl : w0 = (.int i0) := Option.some.inj ei0
  obtain ⟨i1, ei1⟩ := isL_v k1
  obtain rfl : w1 = (.long i1) := Option.some.inj ei1
  obtain ⟨i2, ei2⟩ := isL_v k2
  obtain rfl : w2 = (.long i2) := Option.some.inj ei2
  obtain ⟨i3, ei3⟩ := isL_v k3
  obtain rfl : w3 = (.long i3) := Option.some.inj ei3
  obtain ⟨i4, ei4⟩ := isL_v k4
  obtain rfl : w4 = (.long i4) := Option.some.inj ei4
  obtain ⟨i5, ei5⟩ := isL_v g5
  obtain rfl : w5 = (.long i5) := Option.some.inj ei5
  obtain ⟨n, o, h1, h2, h3, _, L, rfl, ⟨rfl, N⟩, hq⟩ := con_0 l s _ hw i0 i1 i2 i3 i4 i5 s.heap s.heap.size (Nat.le_refl _) tables_1 p e ha hc hk s m _ below hf ((Spec.applies_iff_loose hf).mp happ).1 ⟨rfl, State.Warmed39.refl s, rfl⟩ trivial
  refine ⟨n, _, h1, h2, h3, hpost _ _ _ _ _ _ ⟨Cond.after_iff.mpr rfl, Cond.after_iff.mpr (eq_i res_at (Term.int_eval (1)) rfl)⟩ ⟨hq.1, hq.2.1, (hq.2.2.sift fun y hy => Or.inr (N y hy)).mono (by decide) (by decide)⟩⟩
theorem main_1_1 : Claimed_1_1 := comes_1 fun _ _ _ _ _ _ h hF => ⟨h.1, hF⟩
theorem main_1_2 : Claimed_1_2 := comes_1 fun _ _ _ _ _ _ h hF => ⟨h.2, hF⟩
end Jvm.Pilot.@@N@@
namespace Jvm.Pilot.@@N@@
open Jvm Jvm.ClassFile Sem Op Lib Jvm.Free Jvm.Stand Jvm.Pilot.@@N@@.Jvm.D
/-! MADE BY PROGRAM (witnessworld.py) out of the Statement's table words and the real class files: 14 classes; the members and pool entries that the words name. The judged class is class 1, her method 1. -/
namespace start1
open Jvm.ClassFile
def u (s : String) : CpInfo := .utf8 (stringToUtf16 s)
/-- a pool by its gaps: so many unusable entries, then the entry; so many at the end -/
def gap : Nat → List CpInfo → List CpInfo
  | 0, r => r
  | n + 1, r => .unusable :: gap n r
def poolList (es : List (Nat × CpInfo)) (last : Nat) : List CpInfo := es.foldr (fun e r => gap e.1 (e.2 :: r)) (gap last [])
def pool (es : List (Nat × CpInfo)) (last : Nat) : Array CpInfo := ⟨poolList es last⟩
def fileOf (pool : Array CpInfo) (this : Nat) (attrs : Array Attribute := #[]) (ms : Array MethodInfo := #[]) (fl : Nat := 33) (sup : Nat := 0) (ifs : Array Nat := #[]) (fds : Array FieldInfo := #[]) : ClassFile where
  minorVersion := 0
  majorVersion := 65
  constantPool := pool
  accessFlags := fl
  thisClass := this
  superClass := sup
  interfaces := ifs
  fields := fds
  methods := ms
  attributes := attrs
def plain (name : String) (sup : Option ClassId) : Class where
  name := name
  kind := .ordinary
  loader := none
  accessFlags := 33
  super := sup
  interfaces := #[]
  cf := none
  fields := #[]
  methods := #[]
  instanceTypes := #[]
  staticTypes := #[]
  resolved := #[]
  callSites := []
  init := .initialized
  statics := none
  mirror := none

def pool0 : Array CpInfo := pool [(5, u "<init>"), (0, u "()V"), (1, .class_ 10), (1, u "java/lang/Object")] 113

def k0c0 : Code := { maxStack := 0, maxLocals := 1, code := object_method_1_code, exceptionTable := #[], attributes := #[] }
def k0m0 : Method := { name := "<init>", desc := "()V", sig := { parameters := [], returnType := none }, accessFlags := 1, code := some k0c0 }
/-- java/lang/Object -/
def k0 : Class := { plain "java/lang/Object" none with
  accessFlags := 33
  interfaces := #[]
  cf := some (fileOf pool0 8 #[] #[{ accessFlags := 1, nameIndex := 5, descriptorIndex := 6, attributes := #[] }] 33 0 #[] #[])
  fields := #[]
  methods := #[k0m0]
  instanceTypes := #[]
  staticTypes := #[]
  resolved := Array.replicate 124 none
  statics := none }

def pool1 : Array CpInfo := pool [(2, .class_ 4), (1, u "java/lang/Object"), (0, u "<init>"), (0, u "()V"), (0, .class_ 8), (0, u "com/example/tiefast/tiefast/IdHeap"), (0, .methodref 7 10), (0, .nameAndType 5 11), (0, u "(I)V"), (0, .methodref 7 13), (0, .nameAndType 14 15), (0, u "add"), (0, u "(IJ)V"), (0, .methodref 7 17), (0, .nameAndType 18 19), (0, u "takeFirst"), (0, u "()I"), (0, .methodref 21 22), (0, .class_ 23), (0, .nameAndType 24 25), (0, u "com/example/tiefast/tiefast/IdHeapTakeFirstPinLaw"), (0, u "in"), (0, u "(I)Z"), (2, u "law"), (0, u "(IJJJJJ)Z")] 5

def k1m0 : Method := { name := "<init>", desc := "()V", sig := { parameters := [], returnType := none }, accessFlags := 1, code := none }
def k1c1 : Code := { maxStack := 5, maxLocals := 19, code := code, exceptionTable := #[], attributes := #[] }
def k1m1 : Method := { name := "law", desc := "(IJJJJJ)Z", sig := { parameters := [.int, .long, .long, .long, .long, .long], returnType := some .boolean }, accessFlags := 9, code := some k1c1 }
def k1c2 : Code := { maxStack := 2, maxLocals := 1, code := method_3_code, exceptionTable := #[], attributes := #[] }
def k1m2 : Method := { name := "in", desc := "(I)Z", sig := { parameters := [.int], returnType := some .boolean }, accessFlags := 10, code := some k1c2 }
/-- com/example/tiefast/tiefast/IdHeapTakeFirstPinLaw -/
def k1 : Class := { plain "com/example/tiefast/tiefast/IdHeapTakeFirstPinLaw" (some 0) with
  accessFlags := 49
  interfaces := #[]
  cf := some (fileOf pool1 21 #[] #[{ accessFlags := 1, nameIndex := 5, descriptorIndex := 6, attributes := #[] }, { accessFlags := 9, nameIndex := 28, descriptorIndex := 29, attributes := #[] }, { accessFlags := 10, nameIndex := 24, descriptorIndex := 25, attributes := #[] }] 49 2 #[] #[])
  fields := #[]
  methods := #[k1m0, k1m1, k1m2]
  instanceTypes := #[]
  staticTypes := #[]
  resolved := Array.replicate 35 none
  statics := none }

def pool2 : Array CpInfo := pool [(1, .methodref 2 3), (0, .class_ 4), (0, .nameAndType 5 6), (0, u "java/lang/Object"), (0, u "<init>"), (0, u "()V"), (0, .methodref 8 9), (0, .class_ 10), (0, .nameAndType 11 12), (0, u "java/lang/Math"), (0, u "max"), (0, u "(II)I"), (0, .fieldref 14 15), (0, .class_ 16), (0, .nameAndType 17 18), (0, u "com/example/tiefast/tiefast/IdHeap"), (0, u "ids"), (0, u "[I"), (0, .fieldref 14 20), (0, .nameAndType 21 22), (0, u "ranks"), (0, u "[J"), (0, .fieldref 14 24), (0, .nameAndType 25 26), (0, u "size"), (0, u "I"), (0, .methodref 28 29), (0, .class_ 30), (0, .nameAndType 31 32), (0, u "java/util/Arrays"), (0, u "copyOf"), (0, u "([II)[I"), (0, .methodref 28 34), (0, .nameAndType 31 35), (0, u "([JI)[J"), (0, u "(I)V"), (6, u "add"), (0, u "(IJ)V"), (0, u "takeFirst"), (0, u "()I")] 2

def k2c0 : Code := { maxStack := 3, maxLocals := 2, code := prog_19_method_1_code, exceptionTable := #[], attributes := #[] }
def k2m0 : Method := { name := "<init>", desc := "(I)V", sig := { parameters := [.int], returnType := none }, accessFlags := 0, code := some k2c0 }
def k2c1 : Code := { maxStack := 5, maxLocals := 5, code := prog_19_method_4_code, exceptionTable := #[], attributes := #[] }
def k2m1 : Method := { name := "add", desc := "(IJ)V", sig := { parameters := [.int, .long], returnType := none }, accessFlags := 16, code := some k2c1 }
def k2c2 : Code := { maxStack := 4, maxLocals := 7, code := prog_19_method_5_code, exceptionTable := #[], attributes := #[] }
def k2m2 : Method := { name := "takeFirst", desc := "()I", sig := { parameters := [], returnType := some .int }, accessFlags := 16, code := some k2c2 }
/-- com/example/tiefast/tiefast/IdHeap -/
def k2 : Class := { plain "com/example/tiefast/tiefast/IdHeap" (some 0) with
  accessFlags := 32
  interfaces := #[]
  cf := some (fileOf pool2 14 #[] #[{ accessFlags := 0, nameIndex := 5, descriptorIndex := 36, attributes := #[] }, { accessFlags := 16, nameIndex := 43, descriptorIndex := 44, attributes := #[] }, { accessFlags := 16, nameIndex := 45, descriptorIndex := 46, attributes := #[] }] 32 2 #[] #[{ accessFlags := 2, nameIndex := 17, descriptorIndex := 18, attributes := #[] }, { accessFlags := 2, nameIndex := 21, descriptorIndex := 22, attributes := #[] }, { accessFlags := 2, nameIndex := 25, descriptorIndex := 26, attributes := #[] }])
  fields := #[{ name := "ids", type := (.array .int), accessFlags := 2, slot := 0, constantValue := 0 }, { name := "ranks", type := (.array .long), accessFlags := 2, slot := 1, constantValue := 0 }, { name := "size", type := .int, accessFlags := 2, slot := 2, constantValue := 0 }]
  methods := #[k2m0, k2m1, k2m2]
  instanceTypes := #[(.array .int), (.array .long), .int]
  staticTypes := #[]
  resolved := Array.replicate 49 none
  statics := none }

def pool3 : Array CpInfo := pool [(1, .class_ 2), (0, u "java/lang/Math"), (1, .class_ 6), (1, u "java/lang/Object"), (0, u "<init>"), (0, u "()V"), (89, .class_ 100), (1, u "java/lang/Math$RandomNumberGeneratorHolder"), (71, u "negativeZeroFloatBits"), (0, u "J"), (2, u "negativeZeroDoubleBits"), (21, u "max"), (2, u "min"), (43, u "$assertionsDisabled"), (0, u "Z"), (88, u "(II)I"), (2, u "twoToTheDoubleScaleDown"), (0, u "D"), (4, u "twoToTheDoubleScaleUp"), (9, u "E"), (3, u "PI"), (2, u "TAU"), (2, u "DEGREES_TO_RADIANS"), (0, u "RADIANS_TO_DEGREES")] 94

def k3m0 : Method := { name := "<init>", desc := "()V", sig := { parameters := [], returnType := none }, accessFlags := 2, code := none }
def k3c1 : Code := { maxStack := 2, maxLocals := 2, code := jdk_29_method_65_code, exceptionTable := #[], attributes := #[] }
def k3m1 : Method := { name := "max", desc := "(II)I", sig := { parameters := [.int, .int], returnType := some .int }, accessFlags := 9, code := some k3c1 }
def k3c2 : Code := { maxStack := 2, maxLocals := 2, code := jdk_29_method_69_code, exceptionTable := #[], attributes := #[] }
def k3m2 : Method := { name := "min", desc := "(II)I", sig := { parameters := [.int, .int], returnType := some .int }, accessFlags := 9, code := some k3c2 }
/-- java/lang/Math -/
def k3 : Class := { plain "java/lang/Math" (some 0) with
  accessFlags := 49
  interfaces := #[]
  cf := some (fileOf pool3 1 #[.nestMembers #[98]] #[{ accessFlags := 2, nameIndex := 7, descriptorIndex := 8, attributes := #[] }, { accessFlags := 9, nameIndex := 198, descriptorIndex := 335, attributes := #[] }, { accessFlags := 9, nameIndex := 201, descriptorIndex := 335, attributes := #[] }] 49 4 #[] #[{ accessFlags := 25, nameIndex := 354, descriptorIndex := 339, attributes := #[] }, { accessFlags := 25, nameIndex := 358, descriptorIndex := 339, attributes := #[] }, { accessFlags := 25, nameIndex := 361, descriptorIndex := 339, attributes := #[] }, { accessFlags := 26, nameIndex := 364, descriptorIndex := 339, attributes := #[] }, { accessFlags := 26, nameIndex := 365, descriptorIndex := 339, attributes := #[] }, { accessFlags := 26, nameIndex := 172, descriptorIndex := 173, attributes := #[] }, { accessFlags := 26, nameIndex := 176, descriptorIndex := 173, attributes := #[] }, { accessFlags := 8, nameIndex := 344, descriptorIndex := 339, attributes := #[] }, { accessFlags := 8, nameIndex := 338, descriptorIndex := 339, attributes := #[] }, { accessFlags := 4120, nameIndex := 245, descriptorIndex := 246, attributes := #[] }])
  fields := #[{ name := "E", type := .double, accessFlags := 25, slot := 0, constantValue := 0 }, { name := "PI", type := .double, accessFlags := 25, slot := 1, constantValue := 0 }, { name := "TAU", type := .double, accessFlags := 25, slot := 2, constantValue := 0 }, { name := "DEGREES_TO_RADIANS", type := .double, accessFlags := 26, slot := 3, constantValue := 0 }, { name := "RADIANS_TO_DEGREES", type := .double, accessFlags := 26, slot := 4, constantValue := 0 }, { name := "negativeZeroFloatBits", type := .long, accessFlags := 26, slot := 5, constantValue := 0 }, { name := "negativeZeroDoubleBits", type := .long, accessFlags := 26, slot := 6, constantValue := 0 }, { name := "twoToTheDoubleScaleUp", type := .double, accessFlags := 8, slot := 7, constantValue := 0 }, { name := "twoToTheDoubleScaleDown", type := .double, accessFlags := 8, slot := 8, constantValue := 0 }, { name := "$assertionsDisabled", type := .boolean, accessFlags := 4120, slot := 9, constantValue := 0 }]
  methods := #[k3m0, k3m1, k3m2]
  instanceTypes := #[]
  staticTypes := #[.double, .double, .double, .double, .double, .long, .long, .double, .double, .boolean]
  resolved := Array.replicate 460 none
  statics := none }

def pool4 : Array CpInfo := pool [(2, .class_ 4), (1, u "java/lang/Object"), (0, u "<init>"), (0, u "()V"), (7, .class_ 16), (1, u "java/util/Arrays"), (57, .class_ 76), (1, u "java/util/Arrays$NaturalOrder"), (36, .class_ 115), (1, u "java/util/Arrays$LegacyMergeSort"), (1, u "Z"), (32, .methodref 151 152), (0, .class_ 153), (0, .nameAndType 154 155), (0, u "java/lang/System"), (0, u "arraycopy"), (0, u "(Ljava/lang/Object;ILjava/lang/Object;II)V"), (146, u "copyOf"), (1, .methodref 305 306), (0, .class_ 307), (0, .nameAndType 308 309), (0, u "java/lang/Math"), (0, u "min"), (0, u "(II)I"), (65, .class_ 376), (0, u "java/util/Arrays$ArrayList"), (68, u "$assertionsDisabled"), (269, u "MIN_ARRAY_SORT_GRAN"), (0, u "I"), (2, u "INSERTIONSORT_THRESHOLD"), (151, u "([II)[I"), (0, u "([JI)[J"), (102, .class_ 976), (0, u "java/util/Arrays$ArrayItr")] 52

def k4m0 : Method := { name := "<init>", desc := "()V", sig := { parameters := [], returnType := none }, accessFlags := 2, code := none }
def k4c1 : Code := { maxStack := 6, maxLocals := 3, code := jdk_65_method_123_code, exceptionTable := #[], attributes := #[] }
def k4m1 : Method := { name := "copyOf", desc := "([II)[I", sig := { parameters := [(.array .int), .int], returnType := some (.array .int) }, accessFlags := 9, code := some k4c1 }
def k4c2 : Code := { maxStack := 6, maxLocals := 3, code := jdk_65_method_124_code, exceptionTable := #[], attributes := #[] }
def k4m2 : Method := { name := "copyOf", desc := "([JI)[J", sig := { parameters := [(.array .long), .int], returnType := some (.array .long) }, accessFlags := 9, code := some k4c2 }
/-- java/util/Arrays -/
def k4 : Class := { plain "java/util/Arrays" (some 0) with
  accessFlags := 49
  interfaces := #[]
  cf := some (fileOf pool4 14 #[.nestMembers #[975, 375, 113, 74]] #[{ accessFlags := 2, nameIndex := 5, descriptorIndex := 6, attributes := #[] }, { accessFlags := 9, nameIndex := 302, descriptorIndex := 871, attributes := #[] }, { accessFlags := 9, nameIndex := 302, descriptorIndex := 872, attributes := #[] }] 49 2 #[] #[{ accessFlags := 26, nameIndex := 715, descriptorIndex := 716, attributes := #[] }, { accessFlags := 26, nameIndex := 719, descriptorIndex := 716, attributes := #[] }, { accessFlags := 4120, nameIndex := 445, descriptorIndex := 117, attributes := #[] }])
  fields := #[{ name := "MIN_ARRAY_SORT_GRAN", type := .int, accessFlags := 26, slot := 0, constantValue := 0 }, { name := "INSERTIONSORT_THRESHOLD", type := .int, accessFlags := 26, slot := 1, constantValue := 0 }, { name := "$assertionsDisabled", type := .boolean, accessFlags := 4120, slot := 2, constantValue := 0 }]
  methods := #[k4m0, k4m1, k4m2]
  instanceTypes := #[]
  staticTypes := #[.int, .int, .boolean]
  resolved := Array.replicate 1029 none
  statics := none }

def pool5 : Array CpInfo := pool [(2, .class_ 4), (1, u "java/lang/Object"), (0, u "<init>"), (0, u "()V"), (1, .class_ 10), (1, u "java/lang/System"), (0, u "allowSecurityManager"), (0, u "I"), (16, u "cons"), (0, u "Ljava/io/Console;"), (77, .class_ 110), (1, u "java/lang/System$CallersHolder"), (43, u "initialErrStream"), (0, u "Ljava/io/PrintStream;"), (19, u "security"), (0, u "Ljava/lang/SecurityManager;"), (31, .class_ 209), (0, u "java/lang/System$1"), (7, u "props"), (0, u "Ljava/util/Properties;"), (2, u "lineSeparator"), (0, u "Ljava/lang/String;"), (96, .class_ 321), (1, u "java/lang/System$LoggerFinder"), (5, .class_ 328), (0, u "java/lang/System$Logger"), (67, u "err"), (2, u "out"), (91, u "notSupportedJnuEncoding"), (15, u "in"), (17, u "initialIn"), (0, u "Ljava/io/InputStream;"), (35, u "bootLayer"), (0, u "Ljava/lang/ModuleLayer;"), (99, .class_ 664), (0, u "java/lang/System$2"), (9, u "NEVER"), (2, u "MAYBE"), (49, u "arraycopy"), (0, u "(Ljava/lang/Object;ILjava/lang/Object;II)V"), (72, .class_ 802), (0, u "java/lang/System$Logger$Level")] 31

def k5m0 : Method := { name := "<init>", desc := "()V", sig := { parameters := [], returnType := none }, accessFlags := 2, code := none }
def k5m1 : Method := { name := "arraycopy", desc := "(Ljava/lang/Object;ILjava/lang/Object;II)V", sig := { parameters := [(.object "java/lang/Object"), .int, (.object "java/lang/Object"), .int, .int], returnType := none }, accessFlags := 265, code := none }
/-- java/lang/System -/
def k5 : Class := { plain "java/lang/System" (some 0) with
  accessFlags := 49
  interfaces := #[]
  cf := some (fileOf pool5 8 #[.nestMembers #[319, 327, 801, 108, 663, 208]] #[{ accessFlags := 2, nameIndex := 5, descriptorIndex := 6, attributes := #[] }, { accessFlags := 265, nameIndex := 727, descriptorIndex := 728, attributes := #[] }] 49 2 #[] #[{ accessFlags := 25, nameIndex := 507, descriptorIndex := 526, attributes := #[] }, { accessFlags := 25, nameIndex := 399, descriptorIndex := 155, attributes := #[] }, { accessFlags := 25, nameIndex := 396, descriptorIndex := 155, attributes := #[] }, { accessFlags := 10, nameIndex := 525, descriptorIndex := 526, attributes := #[] }, { accessFlags := 26, nameIndex := 674, descriptorIndex := 12, attributes := #[] }, { accessFlags := 26, nameIndex := 677, descriptorIndex := 12, attributes := #[] }, { accessFlags := 10, nameIndex := 11, descriptorIndex := 12, attributes := #[] }, { accessFlags := 74, nameIndex := 175, descriptorIndex := 176, attributes := #[] }, { accessFlags := 10, nameIndex := 491, descriptorIndex := 222, attributes := #[] }, { accessFlags := 74, nameIndex := 29, descriptorIndex := 30, attributes := #[] }, { accessFlags := 74, nameIndex := 154, descriptorIndex := 155, attributes := #[] }, { accessFlags := 10, nameIndex := 217, descriptorIndex := 218, attributes := #[] }, { accessFlags := 10, nameIndex := 221, descriptorIndex := 222, attributes := #[] }, { accessFlags := 8, nameIndex := 562, descriptorIndex := 563, attributes := #[] }])
  fields := #[{ name := "in", type := (.object "java/io/InputStream"), accessFlags := 25, slot := 0, constantValue := 0 }, { name := "out", type := (.object "java/io/PrintStream"), accessFlags := 25, slot := 1, constantValue := 0 }, { name := "err", type := (.object "java/io/PrintStream"), accessFlags := 25, slot := 2, constantValue := 0 }, { name := "initialIn", type := (.object "java/io/InputStream"), accessFlags := 10, slot := 3, constantValue := 0 }, { name := "NEVER", type := .int, accessFlags := 26, slot := 4, constantValue := 0 }, { name := "MAYBE", type := .int, accessFlags := 26, slot := 5, constantValue := 0 }, { name := "allowSecurityManager", type := .int, accessFlags := 10, slot := 6, constantValue := 0 }, { name := "security", type := (.object "java/lang/SecurityManager"), accessFlags := 74, slot := 7, constantValue := 0 }, { name := "notSupportedJnuEncoding", type := (.object "java/lang/String"), accessFlags := 10, slot := 8, constantValue := 0 }, { name := "cons", type := (.object "java/io/Console"), accessFlags := 74, slot := 9, constantValue := 0 }, { name := "initialErrStream", type := (.object "java/io/PrintStream"), accessFlags := 74, slot := 10, constantValue := 0 }, { name := "props", type := (.object "java/util/Properties"), accessFlags := 10, slot := 11, constantValue := 0 }, { name := "lineSeparator", type := (.object "java/lang/String"), accessFlags := 10, slot := 12, constantValue := 0 }, { name := "bootLayer", type := (.object "java/lang/ModuleLayer"), accessFlags := 8, slot := 13, constantValue := 0 }]
  methods := #[k5m0, k5m1]
  instanceTypes := #[]
  staticTypes := #[(.object "java/io/InputStream"), (.object "java/io/PrintStream"), (.object "java/io/PrintStream"), (.object "java/io/InputStream"), .int, .int, .int, (.object "java/lang/SecurityManager"), (.object "java/lang/String"), (.object "java/io/Console"), (.object "java/io/PrintStream"), (.object "java/util/Properties"), (.object "java/lang/String"), (.object "java/lang/ModuleLayer")]
  resolved := Array.replicate 834 none
  statics := none }

def pool6 : Array CpInfo := pool [(1, u "java/lang/Cloneable"), (0, .class_ 1), (0, u "java/lang/Object"), (0, .class_ 3)] 3

/-- java/lang/Cloneable -/
def k6 : Class := { plain "java/lang/Cloneable" (some 0) with
  accessFlags := 1537
  interfaces := #[]
  cf := some (fileOf pool6 2 #[] #[] 1537 4 #[] #[])
  fields := #[]
  methods := #[]
  instanceTypes := #[]
  staticTypes := #[]
  resolved := Array.replicate 8 none
  statics := none }

def pool7 : Array CpInfo := pool [(1, u "java/io/Serializable"), (0, .class_ 1), (0, u "java/lang/Object"), (0, .class_ 3)] 3

/-- java/io/Serializable -/
def k7 : Class := { plain "java/io/Serializable" (some 0) with
  accessFlags := 1537
  interfaces := #[]
  cf := some (fileOf pool7 2 #[] #[] 1537 4 #[] #[])
  fields := #[]
  methods := #[]
  instanceTypes := #[]
  staticTypes := #[]
  resolved := Array.replicate 8 none
  statics := none }

/-- the primitive byte -/
def k8 : Class := { plain "byte" none with kind := .primitive 'B', accessFlags := 0x411 }
/-- [B -/
def k9 : Class := { plain "[B" (some 0) with kind := .array 8 .byte, interfaces := #[6, 7], accessFlags := 1041 }

/-- the primitive int -/
def k10 : Class := { plain "int" none with kind := .primitive 'I', accessFlags := 0x411 }
/-- [I -/
def k11 : Class := { plain "[I" (some 0) with kind := .array 10 .int, interfaces := #[6, 7], accessFlags := 1041 }

/-- the primitive long -/
def k12 : Class := { plain "long" none with kind := .primitive 'J', accessFlags := 0x411 }
/-- [J -/
def k13 : Class := { plain "[J" (some 0) with kind := .array 12 .long, interfaces := #[6, 7], accessFlags := 1041 }

def heap : Heap := #[]
def classes : Array Class := #[k0, k1, k2, k3, k4, k5, k6, k7, k8, k9, k10, k11, k12, k13]
def interned : List (Array UInt16 × Addr) := []
def slotsUsed : Nat := 0
def theMethod : MethodId := ⟨1, 1⟩
def args0 : Array Value := #[.int 5, .long 5, .long 7, .long 9, .long 9, .long 7]
def aboutOver (below : List Frame) : State where
  vm := { classes := classes, interned := interned.toArray }
  heap := heap
  slotsUsed := slotsUsed
  threads := #[{ frames := .invoking theMethod args0 :: below }]
def below0 : List Frame := [.native { method := ⟨0, 0⟩, args := #[] }]
def about1 : State := aboutOver below0
def p0 : Program := .bare "" "" ""
def e0 : Env := launch0.env 0 0 0
theorem w_frames : about1.frames = Frame.invoking theMethod args0 :: below0 := rfl
set_option maxRecDepth 65536 in
theorem w_args : argsFit about1.vm theMethod args0 = true := by decide +kernel
set_option maxRecDepth 65536 in
theorem w_heap : heapFits about1 = true := by decide +kernel
set_option maxRecDepth 65536 in
theorem w_runnable : about1.curStatus? = some .runnable := by decide +kernel
set_option maxRecDepth 65536 in
theorem w_alone : about1.alone = true := by decide +kernel
set_option maxRecDepth 65536 in
theorem w_named : about1.methodNamed? x = some theMethod := by decide +kernel
set_option maxRecDepth 65536 in
theorem w_hears : about1.hears theMethod below0 = true := by decide +kernel
set_option maxRecDepth 65536 in
theorem w_ripe : about1.ripe theMethod args0 below0 = true := by decide +kernel
theorem w_running : about1.status = .running := rfl
set_option maxRecDepth 65536 in
theorem w_room : about1.hasRoom e0.platform room_1 = true :=
  launch0.hasRoom_least _ room_1 (by decide +kernel) (by decide +kernel) (by decide +kernel) (by decide +kernel) (by decide +kernel) (by decide +kernel)
theorem allAtoms_all (ts : List Jvm.Cond) (a : Array Jvm.Value) (st : Jvm.State) : (allAtoms ts).before a st = ts.all (fun c => c.before a st) := by
  induction ts with
  | nil => rfl
  | cons c t ih =>
    show (Jvm.Cond.and c (allAtoms t)).before a st = _
    rw [Jvm.Cond.before_and, ih, List.all_cons]
def words1 : List Jvm.Cond := Jvm.Cond.code x code maxLocals ret :: tables_1
/-- a 'code' word, met by the world's own term for the bytes: nothing is compared byte by byte -/
theorem code_word {y : MethodName} {bytes : ByteArray} {mx : Nat} {rt : Option FieldType} {a : Array Value} {s : State} {m : MethodId} {meth : Method} {c : Code} (h1 : s.methodNamed? y = some m) (h2 : s.vm.method? m = some meth) (h3 : meth.code = some c) (h4 : c.code = bytes)
    (h5 : (c.maxLocals == mx && c.exceptionTable.isEmpty && decide (c.maxStack ≤ mostOperands) && decide (meth.sig.returnType = rt) && !meth.locks && decide (parseMethodDescriptor y.desc = some meth.sig)) = true) : (Jvm.Cond.code y bytes mx rt).before a s = true := by
  simp only [Bool.and_eq_true, beq_iff_eq, Bool.not_eq_true', decide_eq_true_eq] at h5
  obtain ⟨⟨⟨⟨⟨g1, g2⟩, g3⟩, g4⟩, g5⟩, g6⟩ := h5
  simp [Cond.before, Cond.holds, Cond.value, h1, h2, h3, h4, g1, g2, g3, g4, g5, g6]
def isCode : Jvm.Cond → Bool
  | .code _ _ _ _ => true
  | _ => false
theorem all_split {L : List Jvm.Cond} {P : Jvm.Cond → Bool} (h1 : L.all (fun c => isCode c || P c) = true) (h2 : ∀ c ∈ L.filter isCode, P c = true) : L.all P = true := by
  refine List.all_eq_true.mpr fun c hc => ?_
  have h := List.all_eq_true.mp h1 c hc
  rcases Bool.eq_false_or_eq_true (isCode c) with hi | hi
  · exact h2 c (List.mem_filter.mpr ⟨hc, hi⟩)
  · simpa [hi] using h
set_option maxRecDepth 65536 in
theorem w_c0 : (Jvm.Cond.code x code maxLocals ret).before args0 about1 = true := code_word (m := ⟨1, 1⟩) (meth := k1m1) (c := k1c1) (by decide +kernel) rfl rfl rfl (by decide +kernel)
set_option maxRecDepth 65536 in
theorem w_c1 : (Jvm.Cond.code ({ cls := "com/example/tiefast/tiefast/IdHeap", name := "<init>", desc := "(I)V" } : Jvm.MethodName) prog_19_method_1_code (2 : Nat) (Option.none : Option Jvm.ClassFile.FieldType)).before args0 about1 = true := code_word (m := ⟨2, 0⟩) (meth := k2m0) (c := k2c0) (by decide +kernel) rfl rfl rfl (by decide +kernel)
set_option maxRecDepth 65536 in
theorem w_c2 : (Jvm.Cond.code ({ cls := "java/lang/Object", name := "<init>", desc := "()V" } : Jvm.MethodName) object_method_1_code (1 : Nat) (Option.none : Option Jvm.ClassFile.FieldType)).before args0 about1 = true := code_word (m := ⟨0, 0⟩) (meth := k0m0) (c := k0c0) (by decide +kernel) rfl rfl rfl (by decide +kernel)
set_option maxRecDepth 65536 in
theorem w_c3 : (Jvm.Cond.code ({ cls := "java/lang/Math", name := "max", desc := "(II)I" } : Jvm.MethodName) jdk_29_method_65_code (2 : Nat) (Option.some Jvm.ClassFile.FieldType.int)).before args0 about1 = true := code_word (m := ⟨3, 1⟩) (meth := k3m1) (c := k3c1) (by decide +kernel) rfl rfl rfl (by decide +kernel)
set_option maxRecDepth 65536 in
theorem w_c4 : (Jvm.Cond.code ({ cls := "com/example/tiefast/tiefast/IdHeap", name := "add", desc := "(IJ)V" } : Jvm.MethodName) prog_19_method_4_code (5 : Nat) (Option.none : Option Jvm.ClassFile.FieldType)).before args0 about1 = true := code_word (m := ⟨2, 1⟩) (meth := k2m1) (c := k2c1) (by decide +kernel) rfl rfl rfl (by decide +kernel)
set_option maxRecDepth 65536 in
theorem w_c5 : (Jvm.Cond.code ({ cls := "java/util/Arrays", name := "copyOf", desc := "([II)[I" } : Jvm.MethodName) jdk_65_method_123_code (3 : Nat) (Option.some (Jvm.ClassFile.FieldType.array Jvm.ClassFile.FieldType.int))).before args0 about1 = true := code_word (m := ⟨4, 1⟩) (meth := k4m1) (c := k4c1) (by decide +kernel) rfl rfl rfl (by decide +kernel)
set_option maxRecDepth 65536 in
theorem w_c6 : (Jvm.Cond.code ({ cls := "java/lang/Math", name := "min", desc := "(II)I" } : Jvm.MethodName) jdk_29_method_69_code (2 : Nat) (Option.some Jvm.ClassFile.FieldType.int)).before args0 about1 = true := code_word (m := ⟨3, 2⟩) (meth := k3m2) (c := k3c2) (by decide +kernel) rfl rfl rfl (by decide +kernel)
set_option maxRecDepth 65536 in
theorem w_c7 : (Jvm.Cond.code ({ cls := "java/util/Arrays", name := "copyOf", desc := "([JI)[J" } : Jvm.MethodName) jdk_65_method_124_code (3 : Nat) (Option.some (Jvm.ClassFile.FieldType.array Jvm.ClassFile.FieldType.long))).before args0 about1 = true := code_word (m := ⟨4, 2⟩) (meth := k4m2) (c := k4c2) (by decide +kernel) rfl rfl rfl (by decide +kernel)
set_option maxRecDepth 65536 in
theorem w_c8 : (Jvm.Cond.code ({ cls := "com/example/tiefast/tiefast/IdHeap", name := "takeFirst", desc := "()I" } : Jvm.MethodName) prog_19_method_5_code (7 : Nat) (Option.some Jvm.ClassFile.FieldType.int)).before args0 about1 = true := code_word (m := ⟨2, 2⟩) (meth := k2m2) (c := k2c2) (by decide +kernel) rfl rfl rfl (by decide +kernel)
set_option maxRecDepth 65536 in
theorem w_c9 : (Jvm.Cond.code ({ cls := "com/example/tiefast/tiefast/IdHeapTakeFirstPinLaw", name := "in", desc := "(I)Z" } : Jvm.MethodName) method_3_code (1 : Nat) (Option.some Jvm.ClassFile.FieldType.boolean)).before args0 about1 = true := code_word (m := ⟨1, 2⟩) (meth := k1m2) (c := k1c2) (by decide +kernel) rfl rfl rfl (by decide +kernel)
def codes1 : List Jvm.Cond := [Jvm.Cond.code x code maxLocals ret, Jvm.Cond.code ({ cls := "com/example/tiefast/tiefast/IdHeap", name := "<init>", desc := "(I)V" } : Jvm.MethodName) prog_19_method_1_code (2 : Nat) (Option.none : Option Jvm.ClassFile.FieldType), Jvm.Cond.code ({ cls := "java/lang/Object", name := "<init>", desc := "()V" } : Jvm.MethodName) object_method_1_code (1 : Nat) (Option.none : Option Jvm.ClassFile.FieldType), Jvm.Cond.code ({ cls := "java/lang/Math", name := "max", desc := "(II)I" } : Jvm.MethodName) jdk_29_method_65_code (2 : Nat) (Option.some Jvm.ClassFile.FieldType.int), Jvm.Cond.code ({ cls := "com/example/tiefast/tiefast/IdHeap", name := "add", desc := "(IJ)V" } : Jvm.MethodName) prog_19_method_4_code (5 : Nat) (Option.none : Option Jvm.ClassFile.FieldType), Jvm.Cond.code ({ cls := "java/util/Arrays", name := "copyOf", desc := "([II)[I" } : Jvm.MethodName) jdk_65_method_123_code (3 : Nat) (Option.some (Jvm.ClassFile.FieldType.array Jvm.ClassFile.FieldType.int)), Jvm.Cond.code ({ cls := "java/lang/Math", name := "min", desc := "(II)I" } : Jvm.MethodName) jdk_29_method_69_code (2 : Nat) (Option.some Jvm.ClassFile.FieldType.int), Jvm.Cond.code ({ cls := "java/util/Arrays", name := "copyOf", desc := "([JI)[J" } : Jvm.MethodName) jdk_65_method_124_code (3 : Nat) (Option.some (Jvm.ClassFile.FieldType.array Jvm.ClassFile.FieldType.long)), Jvm.Cond.code ({ cls := "com/example/tiefast/tiefast/IdHeap", name := "takeFirst", desc := "()I" } : Jvm.MethodName) prog_19_method_5_code (7 : Nat) (Option.some Jvm.ClassFile.FieldType.int), Jvm.Cond.code ({ cls := "com/example/tiefast/tiefast/IdHeapTakeFirstPinLaw", name := "in", desc := "(I)Z" } : Jvm.MethodName) method_3_code (1 : Nat) (Option.some Jvm.ClassFile.FieldType.boolean)]
set_option maxRecDepth 65536 in
theorem codes_eq : words1.filter isCode = codes1 := rfl
theorem w_codes : ∀ c ∈ words1.filter isCode, c.before args0 about1 = true := by
  rw [codes_eq]
  intro c hc
  simp only [codes1, List.mem_cons, List.not_mem_nil, or_false] at hc
  rcases hc with rfl | rfl | rfl | rfl | rfl | rfl | rfl | rfl | rfl | rfl
  · exact w_c0
  · exact w_c1
  · exact w_c2
  · exact w_c3
  · exact w_c4
  · exact w_c5
  · exact w_c6
  · exact w_c7
  · exact w_c8
  · exact w_c9
set_option maxRecDepth 65536 in
theorem w_t1 : (words1.take 24).all (fun c => isCode c || c.before args0 about1) = true := by decide +kernel
set_option maxRecDepth 65536 in
theorem w_t2 : ((words1.drop 24).take 24).all (fun c => isCode c || c.before args0 about1) = true := by decide +kernel
set_option maxRecDepth 65536 in
theorem w_t3 : ((words1.drop 24).drop 24).all (fun c => isCode c || c.before args0 about1) = true := by decide +kernel
theorem w_tables : (allAtoms (Jvm.Cond.code x code maxLocals ret :: tables_1)).before args0 about1 = true := by
  rw [allAtoms_all]
  show words1.all (fun c => c.before args0 about1) = true
  refine all_split ?_ w_codes
  rw [← List.take_append_drop 24 words1, List.all_append, w_t1, ← List.take_append_drop 24 (words1.drop 24), List.all_append, w_t2, w_t3]
  rfl
set_option maxRecDepth 65536 in
theorem w_case : (Jvm.Cond.and given_1 narrow_1).before args0 about1 = true := by decide +kernel
theorem w_applies : (headSpec (Jvm.Cond.code x code maxLocals ret :: tables_1) room_1).applies x e0.platform about1 = true :=
  (Spec.applies_iff w_frames).mpr ⟨w_running, w_runnable, w_alone, w_named, w_hears, w_ripe, w_room, w_tables⟩
theorem atStart : AtStart classFile x code maxLocals ret World_1 tables_1 room_1 Calls_1 rest_1 Pre_1 launch0 p0 e0 about1 theMethod args0 below0 :=
  ⟨lists_1, trivial, launch0.admits_env _ _ _, launch0.least_env, fairChoices_fair.cas, fairChoices_fair.clock, w_frames, w_args, w_heap, w_applies, trivial, trivial, w_case⟩
end start1
theorem witness_1 : WitnessClaimed_1 := ⟨start1.p0, start1.e0, start1.about1, start1.theMethod, start1.args0, start1.below0, start1.atStart⟩
end Jvm.Pilot.@@N@@
