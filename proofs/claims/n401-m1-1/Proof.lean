import JvmDerived
import JvmDerived.Pilot.@@N@@Statement
import JvmDerived.Pilot.@@N@@Code
set_option linter.unusedVariables false
set_option linter.unusedSimpArgs false
namespace Jvm.Pilot.@@N@@
open Jvm Jvm.ClassFile Sem Op Lib Jvm.Free Jvm.Stand Jvm.LawKit Jvm.RoadKit Bundle Jvm.Pilot.@@N@@.Jvm.D
abbrev own_H (a0 : Array Value) (Z : State) : Prop := ∀ d ∈ tables_1, d.before a0 Z = true
def own_Fin (p : Program) (e : Env) (below : List Frame) (P : State → Outcome → Prop) (a : State) : Prop := ∃ t o, Steps p.tables e below a t ∧ t.status = .running ∧ Ended t below o ∧ P t o
theorem own_fin {p : Program} {e : Env} {below : List Frame} {P : State → Outcome → Prop} {a b : State} (k : ∀ t, Steps p.tables e below b t → Steps p.tables e below a t) (h : own_Fin p e below P b) : own_Fin p e below P a := by
  obtain ⟨t, o, s, r⟩ := h
  exact ⟨t, o, k t s, r⟩
theorem own_rw {T : State} {h : Heap} {a : Addr} {c : Cell} (e : T.heap = h) (q : h[a]? = some c) : T.heap[a]? = some c := by rw [e]; exact q
theorem own_StaKeep {Z : State} {h : Heap} {C n d : String} {v : Value} {n0 : Nat} (O : Old Z n0 h) (F : Sta Z Z.heap C n d v) : Sta Z h C n d v := F.ext O.2

theorem jk {Z : State} {a0 : Array Value} {d : Jvm.Cond} (hw : own_H a0 Z) (i : Nat) (h : tables_1[i]? = some d) : d.before a0 Z = true := hw d (List.mem_of_getElem? h)
theorem jm {Z s : State} {a0 args : Array Value} {d : Jvm.Cond} (hZ : Z.Warmed39 s.vm) (hw : own_H a0 Z) (i : Nat) (h : tables_1[i]? = some d) (hd : (d.onTables && d.keepsFace) = true := by first | rfl | simp [Cond.onTables, Cond.keepsFace, Cond.keeps, Cond.steady]) : d.before args s = true := mvT hZ (jk hw i h) hd
theorem jg {p : Program} {e : Env} {below : List Frame} {P : State → Outcome → Prop} {a : State} (T : State) (m : MethodId) (pc : Nat) (L : Array Slot) (S : List Value) (k : ∀ t, Steps p.tables e below (T.setTop (mkF m pc L S)) t → Steps p.tables e below a t) (h : own_Fin p e below P (T.setTop (mkF m pc L S))) : own_Fin p e below P a := own_fin k h
abbrev own_P (s : State) (R : Room) (Qq : Option Value → Heap → List Loc → Prop) : State → Outcome → Prop := fun tT oO => ∃ vV lA, oO = .returned vV ∧ Qq vV tT.heap lA ∧ FrameEnd s oO tT lA R.cells R.slots
section OwnR
variable {p : Program} {l : Launch} {e : Env} {R : Room} {s : State} {m : MethodId} {args : Array Value} {below : List Frame} {meth : Method} {c : Code} {T : State} {locs : List Loc} {cells slots : Nat} {h : Heap} {Qq : Option Value → Heap → List Loc → Prop} {pc : Nat} {L : Array Slot}
theorem own_rV (X : Stand p l e R s m args below meth c T locs cells slots) (hx : p.tables.exec = Jvm.exec) (hlk : meth.locks = false) (hret : meth.sig.returnType = none) (hd : decode c.code pc = .ok (.return_, 1)) (eT : T.heap = h) (hc : cells ≤ R.cells) (hs : slots ≤ R.slots) (q : Qq (none) h locs) : own_Fin p e below (own_P s R Qq) (T.setTop (mkF m pc L [])) := by
  obtain ⟨fs, hr, hrun, hended, hW, hsame⟩ := X.leave (v := none) (fun _ => rfl) hlk
  refine ⟨_, _, X.returnOut hx hret hd hr, hrun, hended, _, _, rfl, ?_, ⟨_, rfl⟩, hW, hsame.mono hc hs⟩
  show Qq _ T.heap locs
  rw [eT]; exact q
theorem own_rN (X : Stand p l e R s m args below meth c T locs cells slots) (hx : p.tables.exec = Jvm.exec) (hlk : meth.locks = false) {z : Int32} {t : FieldType} {rest : List Value} (hret : meth.sig.returnType = some t) (ht : t = .boolean ∨ t = .byte ∨ t = .char ∨ t = .short) (hd : decode c.code pc = .ok (.ireturn, 1)) (eT : T.heap = h) (hc : cells ≤ R.cells) (hs : slots ≤ R.slots) (q : Qq (some (.int (nar t z))) h locs) : own_Fin p e below (own_P s R Qq) (T.setTop (mkF m pc L (.int z :: rest))) := by
  obtain ⟨fs, hr, hrun, hended, hW, hsame⟩ := X.leave (v := some (.int (nar t z))) (fun q => by rw [hret] at q; cases q) hlk
  refine ⟨_, _, retN X hx hret ht hd hr, hrun, hended, _, _, rfl, ?_, ⟨_, rfl⟩, hW, hsame.mono hc hs⟩
  show Qq _ T.heap locs
  rw [eT]; exact q
theorem own_rr (X : Stand p l e R s m args below meth c T locs cells slots) (hx : p.tables.exec = Jvm.exec) (hlk : meth.locks = false) {w : Value} {t : FieldType} {i : Instr} {rest : List Value} (hret : meth.sig.returnType = some t) (hn : narrow t w = w) (hi : (i = .ireturn ∧ (t = .int ∨ t = .boolean ∨ t = .byte ∨ t = .char ∨ t = .short) ∧ ∃ z, w = .int z) ∨ (i = .lreturn ∧ t = .long ∧ ∃ z, w = .long z) ∨ (i = .dreturn ∧ t = .double ∧ ∃ z, w = .double z) ∨ (i = .freturn ∧ t = .float ∧ ∃ z, w = .float z) ∨ (i = .areturn ∧ t.isReference = true ∧ w.isRef = true)) (hd : decode c.code pc = .ok (i, 1)) (eT : T.heap = h) (hc : cells ≤ R.cells) (hs : slots ≤ R.slots) (q : Qq (some w) h locs) : own_Fin p e below (own_P s R Qq) (T.setTop (mkF m pc L (w :: rest))) := by
  obtain ⟨fs, hr, hrun, hended, hW, hsame⟩ := X.leave (v := some w) (fun q => by rw [hret] at q; cases q) hlk
  refine ⟨_, _, retOut X hx hret hn hi hd hr, hrun, hended, _, _, rfl, ?_, ⟨_, rfl⟩, hW, hsame.mono hc hs⟩
  show Qq _ T.heap locs
  rw [eT]; exact q
theorem own_rL (X : Stand p l e R s m args below meth c T locs cells slots) (hx : p.tables.exec = Jvm.exec) (hlk : meth.locks = false) {z : Int32} {t : FieldType} {rest : List Value} (hret : meth.sig.returnType = some t) (ht : t = .boolean ∨ t = .byte ∨ t = .char ∨ t = .short) (hd : decode c.code pc = .ok (.ireturn, 1)) {w : Value} (hv : Value.int (nar t z) = w) (eT : T.heap = h) (hc : cells ≤ R.cells) (hs : slots ≤ R.slots) (q : Qq (some w) h locs) : own_Fin p e below (own_P s R Qq) (T.setTop (mkF m pc L (.int z :: rest))) := by
  subst hv
  exact own_rN X hx hlk hret ht hd eT hc hs q
end OwnR
abbrev own_Met (lL : Launch) (y : MethodName) (cs : List Jvm.Cond) (R : Room) (A : Array Value) (Z : State) (h0 : Heap) (Qq : Option Value → Heap → List Loc → Prop) : Prop := MetFree lL y (head1 cs R) (fun aA uU => aA = A ∧ Z.Warmed39 uU.vm ∧ uU.heap = h0) (fun _ _ _ _ _ => True) (fun _ uU oO uU' => ∃ vV lA, oO = .returned vV ∧ Qq vV uU'.heap lA ∧ FrameEnd uU oO uU' lA R.cells R.slots)
theorem own_begin {lL : Launch} {Z : State} {y : MethodName} {bytes : ByteArray} {maxL : Nat} {ret : Option FieldType} {ws : List Jvm.Cond} {R : Room} {A : Array Value} {h0 : Heap} {Qq : Option Value → Heap → List Loc → Prop} {L : Array Slot} (pl : plainFor y = true) (ef : ∀ mM : MethodId, entryFrame mM A maxL = mkF mM 0 L [])
    (k : ∀ pP eE sS mM below meth cC s₁, pP.tables.exec = Jvm.exec → cC.code = bytes → cC.maxLocals = maxL → Z.Warmed39 sS.vm → sS.vm.findClass y.cls = some mM.cls → meth.name = y.name → meth.sig.returnType = ret → meth.locks = false → Stand pP lL eE R sS mM A below meth cC s₁ [] 0 0 → s₁.heap = h0 → own_Fin pP eE below (own_P sS R Qq) (s₁.setTop (mkF mM 0 L []))) : own_Met lL y (Jvm.Cond.code y bytes maxL ret :: ws) R A Z h0 Qq := by
  refine MetFree.of_bodySF pl hisR ?_
  intro pP eE sS mM args below meth cC s₁ Bd hml0 hP hK
  obtain ⟨rfl, hZ, hh⟩ := hP
  have e0 : s₁.heap = h0 := by rw [← hh, Bd.state]; rfl
  exact own_fin (fun tT kK => castTop (ef mM) kK) (k pP eE sS mM below meth cC s₁ Bd.exec Bd.bytes hml0 hZ (findClass_of_methodNamed Bd.named) (name_of_methodNamed Bd.named Bd.method).1 Bd.returns Bd.notSynchronized (Stand.of_body Bd) e0)
section OwnW
variable {p : Program} {l : Launch} {e : Env} {R : Room} {Z s : State} {a0 : Array Value} {m : MethodId} {args : Array Value} {below : List Frame} {meth : Method} {c : Code} {T : State} {locs : List Loc} {cells slots : Nat} {h : Heap} {P : State → Outcome → Prop}
theorem jf (X : Stand p l e R s m args below meth c T locs cells slots) (hx : p.tables.exec = Jvm.exec) (hZ : Z.Warmed39 s.vm) {own O n d : String} {index : Nat} (hown : s.vm.findClass own = some m.cls) (w : (Cond.fieldLink own index O n d).before a0 Z = true) (eT : T.heap = h) {a : Addr} {v : Value} (F : Fld Z h a O n d v) {pc : Nat} {L : Array Slot} {rest : List Value} (hd : decode c.code pc = .ok (.getfield index, 3)) (k : ∀ T', Stand p l e R s m args below meth c T' locs cells slots → T'.heap = h → own_Fin p e below P (T'.setTop (mkF m (pc + 3) L (v :: rest)))) : own_Fin p e below P (T.setTop (mkF m pc L (.ref a :: rest))) := by
  obtain ⟨T', X', e', st⟩ := getF (host := "") X hx hZ hown (Or.inl w) Via.refl eT F (g := mkF m pc L (.ref a :: rest)) rfl rfl hd
  exact own_fin st (k T' X' e')
theorem jn (X : Stand p l e R s m args below meth c T locs cells slots) (hx : p.tables.exec = Jvm.exec) (hZ : Z.Warmed39 s.vm) {own O n d host : String} {index : Nat} (hown : s.vm.findClass own = some m.cls) (w : (Cond.fieldLinkNest own index O n d host).before a0 Z = true) (eT : T.heap = h) {a : Addr} {v : Value} (F : Fld Z h a O n d v) {pc : Nat} {L : Array Slot} {rest : List Value} (hd : decode c.code pc = .ok (.getfield index, 3)) (k : ∀ T', Stand p l e R s m args below meth c T' locs cells slots → T'.heap = h → own_Fin p e below P (T'.setTop (mkF m (pc + 3) L (v :: rest)))) : own_Fin p e below P (T.setTop (mkF m pc L (.ref a :: rest))) := by
  obtain ⟨T', X', e', st⟩ := getF X hx hZ hown (Or.inr w) Via.refl eT F (g := mkF m pc L (.ref a :: rest)) rfl rfl hd
  exact own_fin st (k T' X' e')
theorem jq (X : Stand p l e R s m args below meth c T locs cells slots) (hx : p.tables.exec = Jvm.exec) (hZ : Z.Warmed39 s.vm) {own O n d C : String} {index kk : Nat} {ty : FieldType} (hown : s.vm.findClass own = some m.cls) (w : (Cond.fieldLink own index O n d).before a0 Z = true) (eT : T.heap = h) {a : Addr} {v old : Value} (F : Fld Z h a O n d old) (E : Exa Z h a C) (L0 : (Cond.lays C O n d).before a0 Z = true) (wi : (Cond.instantiable C kk).before a0 Z = true) (ht : parseFieldDescriptor d = some ty) (hn : narrow ty v = v) (hf : fits ty v = true) {pc : Nat} {L : Array Slot} {rest : List Value} (hd : decode c.code pc = .ok (.putfield index, 3)) {n0 : Nat} {h0 : Heap} {ws : List Addr} (K : Keep h0 h ws) (N : Fr n0 locs) (hm : a ∈ ws ∨ h0.size ≤ a) (ge : n0 ≤ a)
    (k : ∀ T' h', Stand p l e R s m args below meth c T' (locs ++ [⟨a, RoadKit.slotOf Z O n d⟩]) cells slots → T'.heap = h' → Wr h h' a (RoadKit.slotOf Z O n d) v → Fld Z h' a O n d v → Keep h0 h' ws → Fr n0 (locs ++ [⟨a, RoadKit.slotOf Z O n d⟩]) → own_Fin p e below P (T'.setTop (mkF m (pc + 3) L rest))) : own_Fin p e below P (T.setTop (mkF m pc L (v :: .ref a :: rest))) := by
  obtain ⟨T', h', X', e', W, st⟩ := putF (host := "") X hx hZ hown (Or.inl w) Via.refl eT F E (Or.inl L0) wi ht hn hf (g := mkF m pc L (v :: .ref a :: rest)) rfl rfl hd
  exact own_fin st (k T' h' X' e' W (F.same W) (K.wr W hm) (Fr.snoc X' N ge))
theorem jv (X : Stand p l e R s m args below meth c T locs cells slots) (hx : p.tables.exec = Jvm.exec) (hZ : Z.Warmed39 s.vm) {own C : String} {index : Nat} {y : MethodName} {bytes : ByteArray} {maxL : Nat} {ret : Option FieldType} {rm : Room} {A : Array Value} {Qq : Option Value → Heap → List Loc → Prop} (hown : s.vm.findClass own = some m.cls) (w1 : (Cond.methodLink own index y).before a0 Z = true) (w2 : (Cond.declares y).before a0 Z = true) (w3 : (Cond.selects C y y).before a0 Z = true) (w4 : (Cond.instanceMethod y).before a0 Z = true) (wc : (Cond.code y bytes maxL ret).before a0 Z = true) (wz : (Cond.initialized y.cls).before a0 Z = true) (con : own_Met l y [Cond.code y bytes maxL ret] rm A Z h Qq) {a : Addr} (E : Exa Z h a C) (eT : T.heap = h) {ps : List FieldType} {r : Option FieldType} (hd : parseMethodDescriptor y.desc = some ⟨ps, r⟩) {pc : Nat} {L : Array Slot} (argsL rest : List Value) (hdg : decode c.code pc = .ok (.invokevirtual index, 3)) (hA : (.ref a :: argsL).toArray = A) (hl : argsL.length = ps.length) (hsz : L.size = c.maxLocals) (hy : y.cls ≠ "java/lang/invoke/MethodHandle" ∧ y.cls ≠ "java/lang/invoke/VarHandle") (W : Nat) (hW : (rest.map fun v => v.category).sum ≤ W) (hf : rm.frames + 1 ≤ R.frames) (hlo : W + (maxL + 11) + rm.locals ≤ R.locals) (hc : cells + rm.cells ≤ R.cells) (hs : slots + rm.slots ≤ R.slots) (k : ∀ (v : Option Value) (T' : State) (L' : List Loc), Stand p l e R s m args below meth c T' (locs ++ L') (cells + rm.cells) (slots + rm.slots) → Qq v T'.heap L' → own_Fin p e below P (T'.setTop (mkF m (pc + 3) L (v.toList ++ rest)))) : own_Fin p e below P (T.setTop (mkF m pc L (argsL.reverse ++ .ref a :: rest))) := by
  obtain ⟨cB, kB, qa, qb, qc⟩ := isOf hZ eT E
  obtain ⟨v, vm₁, ⟨T', L', k', n'⟩, -, X', ⟨Lc, hQ, e1, e2, e3⟩, st⟩ := X.virtualBack hx (y := y) (z := y) hown (mvT hZ w1) (mvT hZ w2) (notFace_of_selects (args := #[]) (mvT hZ w3)) (mvT hZ w3) (mvT hZ w4) hy (backOf (W := W) con hZ wc wz hf hlo) qa qc (g := mkF m pc L (argsL.reverse ++ .ref a :: rest)) rfl hsz (Steps.refl _) (argsL := argsL) (rest := rest) (lenOf hd hl) rfl (by show 2 * 0 + _ ≤ _; omega) hdg (fun _ _ => ⟨hA, eT, hc, hs⟩)
  dsimp only [Pt.U, Pt.locs, Pt.cells, Pt.slots] at X' e1 e2 e3 st hQ
  subst e1 e2 e3
  exact own_fin (fun t q => st.trans q) (k v T' Lc X' hQ)
theorem jw (X : Stand p l e R s m args below meth c T locs cells slots) (hx : p.tables.exec = Jvm.exec) (hZ : Z.Warmed39 s.vm) {own C : String} {index : Nat} {y : MethodName} {bytes : ByteArray} {maxL : Nat} {ret : Option FieldType} {rm : Room} {A : Array Value} {Qq : Option Value → Heap → List Loc → Prop} (hown : s.vm.findClass own = some m.cls) (w1 : (Cond.methodLink own index y).before a0 Z = true) (w4 : (Cond.instanceMethod y).before a0 Z = true) (hsel : (Cond.selects y.cls y y).before args s = true) (wp : (Cond.privateMethod y).before a0 Z = true) (wc : (Cond.code y bytes maxL ret).before a0 Z = true) (wz : (Cond.initialized y.cls).before a0 Z = true) (con : own_Met l y [Cond.code y bytes maxL ret] rm A Z h Qq) {a : Addr} (E : Exa Z h a C) (eT : T.heap = h) {ps : List FieldType} {r : Option FieldType} (hd : parseMethodDescriptor y.desc = some ⟨ps, r⟩) {pc : Nat} {L : Array Slot} (argsL rest : List Value) (hdg : decode c.code pc = .ok (.invokevirtual index, 3)) (hA : (.ref a :: argsL).toArray = A) (hl : argsL.length = ps.length) (hsz : L.size = c.maxLocals) (hy : y.cls ≠ "java/lang/invoke/MethodHandle" ∧ y.cls ≠ "java/lang/invoke/VarHandle") (W : Nat) (hW : (rest.map fun v => v.category).sum ≤ W) (hf : rm.frames + 1 ≤ R.frames) (hlo : W + (maxL + 11) + rm.locals ≤ R.locals) (hc : cells + rm.cells ≤ R.cells) (hs : slots + rm.slots ≤ R.slots) (k : ∀ (v : Option Value) (T' : State) (L' : List Loc), Stand p l e R s m args below meth c T' (locs ++ L') (cells + rm.cells) (slots + rm.slots) → Qq v T'.heap L' → own_Fin p e below P (T'.setTop (mkF m (pc + 3) L (v.toList ++ rest)))) : own_Fin p e below P (T.setTop (mkF m pc L (argsL.reverse ++ .ref a :: rest))) := by
  obtain ⟨cq, q, q'⟩ := E.cell
  obtain ⟨v, vm₁, ⟨T', L', k', n'⟩, -, X', ⟨Lc, hQ, e1, e2, e3⟩, st⟩ := X.privateBack hx (y := y) hown (mvT hZ w1) (mvT hZ w4) hsel (Cond.privateMethod_at (mvP hZ wp (args := #[]))) (mvT hZ wc) hy (backOf (W := W) con hZ wc wz hf hlo) (g := mkF m pc L (argsL.reverse ++ .ref a :: rest)) rfl hsz (Steps.refl _) (a := a) (by rw [eT]; exact q) q' (argsL := argsL) (rest := rest) (lenOf hd hl) rfl (by show 2 * 0 + _ ≤ _; omega) hdg (fun _ _ => ⟨hA, eT, hc, hs⟩)
  dsimp only [Pt.U, Pt.locs, Pt.cells, Pt.slots] at X' e1 e2 e3 st hQ
  subst e1 e2 e3
  exact own_fin (fun t q => st.trans q) (k v T' Lc X' hQ)
theorem own_sb (X : Stand p l e R s m args below meth c T locs cells slots) (hx : p.tables.exec = Jvm.exec) (hZ : Z.Warmed39 s.vm) {own : String} {index : Nat} {y : MethodName} {bytes : ByteArray} {maxL : Nat} {rm : Room} {A : Array Value} {Qq : Option Value → Heap → List Loc → Prop} (hy1 : y.name = "<init>") (hown : s.vm.findClass own = some m.cls) (w1 : (Cond.methodLink own index y).before a0 Z = true) (w4 : (Cond.instanceMethod y).before a0 Z = true) (wc : (Cond.code y bytes maxL none).before a0 Z = true) (wz : (Cond.initialized y.cls).before a0 Z = true) (con : own_Met l y [Cond.code y bytes maxL none] rm A Z h Qq) {a : Addr} (eT : T.heap = h) {ps : List FieldType} {r : Option FieldType} (hd : parseMethodDescriptor y.desc = some ⟨ps, r⟩) {pc : Nat} {L : Array Slot} (argsL rest : List Value) (hdg : decode c.code pc = .ok (.invokespecial index, 3)) (hA : (.ref a :: argsL).toArray = A) (hl : argsL.length = ps.length) (hsz : L.size = c.maxLocals) (hy : y.cls ≠ "java/lang/invoke/MethodHandle" ∧ y.cls ≠ "java/lang/invoke/VarHandle") (W : Nat) (hW : (rest.map fun v => v.category).sum ≤ W) (hf : rm.frames + 1 ≤ R.frames) (hlo : W + (maxL + 11) + rm.locals ≤ R.locals) (hc : cells + rm.cells ≤ R.cells) (hs : slots + rm.slots ≤ R.slots) (k : ∀ (v : Option Value) (T' : State) (L' : List Loc), Stand p l e R s m args below meth c T' (locs ++ L') (cells + rm.cells) (slots + rm.slots) → Qq v T'.heap L' → own_Fin p e below P (T'.setTop (mkF m (pc + 3) L (v.toList ++ rest)))) : own_Fin p e below P (T.setTop (mkF m pc L (argsL.reverse ++ .ref a :: rest))) := by
  obtain ⟨v, vm₁, ⟨T', L', k', n'⟩, -, X', ⟨Lc, hQ, e1, e2, e3⟩, st⟩ := X.specialBack hx (y := y) hy1 hown (mvT hZ w1) (mvT hZ w4) (mvT hZ wc) hy (backOf (W := W) con hZ wc wz hf hlo) (g := mkF m pc L (argsL.reverse ++ .ref a :: rest)) rfl hsz (Steps.refl _) (a := a) (argsL := argsL) (rest := rest) (lenOf hd hl) rfl (by show 2 * 0 + _ ≤ _; omega) hdg (fun _ _ => ⟨hA, eT, hc, hs⟩)
  dsimp only [Pt.U, Pt.locs, Pt.cells, Pt.slots] at X' e1 e2 e3 st hQ
  subst e1 e2 e3
  exact own_fin (fun t q => st.trans q) (k v T' Lc X' hQ)
theorem jc (X : Stand p l e R s m args below meth c T locs cells slots) (hx : p.tables.exec = Jvm.exec) (hZ : Z.Warmed39 s.vm) {own : String} {index : Nat} {y : MethodName} {bytes : ByteArray} {maxL : Nat} {ret : Option FieldType} {rm : Room} {A : Array Value} {Qq : Option Value → Heap → List Loc → Prop} (hown : s.vm.findClass own = some m.cls) (w1 : (Cond.methodLink own index y).before a0 Z = true) (w2 : (Cond.static y).before a0 Z = true) (wz : (Cond.initialized y.cls).before a0 Z = true) (wc : (Cond.code y bytes maxL ret).before a0 Z = true) (con : own_Met l y [Cond.code y bytes maxL ret] rm A Z h Qq) (eT : T.heap = h) {ps : List FieldType} {r : Option FieldType} (hd : parseMethodDescriptor y.desc = some ⟨ps, r⟩) {pc : Nat} {L : Array Slot} (argsL rest : List Value) (hdg : decode c.code pc = .ok (.invokestatic index, 3)) (hA : argsL.toArray = A) (hl : argsL.length = ps.length) (hsz : L.size = c.maxLocals) (hy : y.cls ≠ "java/lang/invoke/MethodHandle" ∧ y.cls ≠ "java/lang/invoke/VarHandle") (W : Nat) (hW : (rest.map fun v => v.category).sum ≤ W) (hf : rm.frames + 1 ≤ R.frames) (hlo : W + (maxL + 11) + rm.locals ≤ R.locals) (hc : cells + rm.cells ≤ R.cells) (hs : slots + rm.slots ≤ R.slots) (k : ∀ (v : Option Value) (T' : State) (L' : List Loc), Stand p l e R s m args below meth c T' (locs ++ L') (cells + rm.cells) (slots + rm.slots) → Qq v T'.heap L' → own_Fin p e below P (T'.setTop (mkF m (pc + 3) L (v.toList ++ rest)))) : own_Fin p e below P (T.setTop (mkF m pc L (argsL.reverse ++ rest))) := by
  obtain ⟨v, vm₁, ⟨T', L', k', n'⟩, -, X', ⟨Lc, hQ, e1, e2, e3⟩, st⟩ := Jvm.LawKit.callS X hx hown (mvT hZ w1) (mvT hZ w2) (mvT hZ wz) (mvT hZ wc) hy (backOf (W := W) con hZ wc wz hf hlo) (g := mkF m pc L (argsL.reverse ++ rest)) rfl hsz (lenOf hd hl) rfl (by show 2 * 0 + _ ≤ _; omega) hdg (fun _ _ => ⟨hA, eT, hc, hs⟩)
  dsimp only [Pt.U, Pt.locs, Pt.cells, Pt.slots] at X' e1 e2 e3 st hQ
  subst e1 e2 e3
  exact own_fin (fun t q => st t q) (k v T' Lc X' hQ)
end OwnW
abbrev vU : Slot := .unset
abbrev vS : Slot := .second
abbrev vI (x : Int32) : Slot := .val (.int x)
abbrev vJ (x : Int64) : Slot := .val (.long x)
abbrev vR (x : Addr) : Slot := .val (.ref x)
abbrev vN : Slot := .val .null
abbrev jy0 : MethodName := (⟨"com/example/portion/portion/server/OffsetSet", "requireRange", "(JJ)V"⟩ : MethodName)
abbrev jy1 : MethodName := (⟨"java/lang/Math", "max", "(II)I"⟩ : MethodName)
abbrev jy2 : MethodName := (⟨"com/example/portion/portion/server/OffsetSet", "pageAt", "(J)I"⟩ : MethodName)
abbrev jy3 : MethodName := (⟨"com/example/portion/portion/server/OffsetSet$Page", "lastRunTo", "()J"⟩ : MethodName)
abbrev jy4 : MethodName := (⟨"com/example/portion/portion/server/OffsetSet$Page", "lastRunFrom", "()J"⟩ : MethodName)
abbrev jy5 : MethodName := (⟨"com/example/portion/portion/server/OffsetSet$Page", "byteCount", "()I"⟩ : MethodName)
abbrev jy6 : MethodName := (⟨"com/example/portion/portion/server/OffsetSet", "<init>", "(I)V"⟩ : MethodName)
abbrev jy7 : MethodName := (⟨"com/example/portion/portion/server/OffsetSet$Page", "<init>", "()V"⟩ : MethodName)
abbrev jy8 : MethodName := (⟨"com/example/portion/portion/server/OffsetSet", "replacePages", "(II[Lcom/example/portion/portion/server/OffsetSet$Page;I)V"⟩ : MethodName)
abbrev jy9 : MethodName := (⟨"com/example/portion/portion/server/OffsetSet$Page", "write", "(J)V"⟩ : MethodName)
abbrev jy10 : MethodName := (⟨"com/example/portion/portion/server/OffsetSet$Page", "writeLastRun", "()V"⟩ : MethodName)
abbrev jy11 : MethodName := (⟨"com/example/portion/portion/server/OffsetSet$Page", "withRoom", "(I)I"⟩ : MethodName)
abbrev jy12 : MethodName := (⟨"com/example/portion/portion/server/OffsetSet$Page", "moveTo", "(I)V"⟩ : MethodName)
abbrev jy13 : MethodName := (⟨"com/example/portion/portion/server/OffsetSet$Page", "makeRoom", "(I)V"⟩ : MethodName)
abbrev jy14 : MethodName := (⟨"com/example/portion/portion/server/OffsetSet$Page", "extend", "(JJ)V"⟩ : MethodName)
abbrev jy15 : MethodName := (⟨"com/example/portion/portion/server/OffsetSet$Page", "trim", "()V"⟩ : MethodName)
abbrev jy16 : MethodName := (⟨"com/example/portion/portion/server/OffsetSet", "appendTo", "(IJJ)V"⟩ : MethodName)
abbrev jy17 : MethodName := (⟨"com/example/portion/portion/server/OffsetSet", "append", "(JJ)V"⟩ : MethodName)
abbrev jy18 : MethodName := (⟨"com/example/portion/portion/server/OffsetSet", "addRange", "(JJ)V"⟩ : MethodName)
abbrev jy19 : MethodName := (⟨"com/example/portion/portion/server/OffsetSet", "add", "(J)V"⟩ : MethodName)
abbrev jy20 : MethodName := (⟨"com/example/portion/portion/server/OffsetSet", "clear", "()V"⟩ : MethodName)
abbrev jy21 : MethodName := (⟨"com/example/portion/portion/server/OffsetSet", "isEmpty", "()Z"⟩ : MethodName)
abbrev jy22 : MethodName := (⟨"com/example/portion/portion/server/OffsetSet", "contains", "(J)Z"⟩ : MethodName)
abbrev jy23 : MethodName := (⟨"com/example/portion/portion/server/OffsetSet", "size", "()J"⟩ : MethodName)
abbrev jy24 : MethodName := (⟨"com/example/portion/portion/server/OffsetSet", "first", "()J"⟩ : MethodName)
abbrev jy25 : MethodName := (⟨"com/example/portion/portion/server/OffsetSet$Page$Runs", "<init>", "(Lcom/example/portion/portion/server/OffsetSet$Page;)V"⟩ : MethodName)
abbrev jy26 : MethodName := (⟨"com/example/portion/portion/server/OffsetSet$Page", "contains", "(J)Z"⟩ : MethodName)
abbrev jr0 : Room := ({ frames := 0, cells := 0, slots := 0, locals := 0 } : Room)
abbrev jr1 : Room := ({ frames := 1, cells := 0, slots := 0, locals := 12 } : Room)
abbrev jr2 : Room := ({ frames := 1, cells := 1, slots := 2, locals := 40 } : Room)
abbrev jr3 : Room := ({ frames := 1, cells := 0, slots := 0, locals := 40 } : Room)
abbrev jr4 : Room := ({ frames := 1, cells := 0, slots := 0, locals := 16 } : Room)
abbrev jr5 : Room := ({ frames := 1, cells := 0, slots := 0, locals := 13 } : Room)
abbrev jr6 : Room := ({ frames := 1, cells := 1, slots := 28, locals := 40 } : Room)
abbrev jr7 : Room := ({ frames := 2, cells := 1, slots := 28, locals := 54 } : Room)
abbrev jr8 : Room := ({ frames := 3, cells := 1, slots := 28, locals := 67 } : Room)
abbrev jr9 : Room := ({ frames := 2, cells := 0, slots := 0, locals := 35 } : Room)
abbrev jr10 : Room := ({ frames := 1, cells := 1, slots := 7, locals := 40 } : Room)
abbrev jr11 : Room := ({ frames := 2, cells := 1, slots := 7, locals := 54 } : Room)
abbrev jr12 : Room := ({ frames := 2, cells := 3, slots := 13, locals := 58 } : Room)
abbrev jr13 : Room := ({ frames := 3, cells := 3, slots := 13, locals := 78 } : Room)
abbrev jr14 : Room := ({ frames := 4, cells := 3, slots := 13, locals := 94 } : Room)
abbrev jr15 : Room := ({ frames := 5, cells := 3, slots := 13, locals := 113 } : Room)
abbrev jr16 : Room := ({ frames := 4, cells := 1, slots := 28, locals := 85 } : Room)
abbrev jr17 : Room := ({ frames := 5, cells := 1, slots := 28, locals := 105 } : Room)
abbrev jr18 : Room := ({ frames := 3, cells := 3, slots := 18, locals := 66 } : Room)
abbrev jr19 : Room := ({ frames := 4, cells := 3, slots := 18, locals := 86 } : Room)
abbrev jr20 : Room := ({ frames := 5, cells := 3, slots := 18, locals := 105 } : Room)
abbrev jr21 : Room := ({ frames := 1, cells := 0, slots := 0, locals := 17 } : Room)
abbrev jr22 : Room := ({ frames := 2, cells := 1, slots := 4, locals := 26 } : Room)
abbrev jr23 : Room := ({ frames := 3, cells := 1, slots := 4, locals := 43 } : Room)
abbrev jF0 (Z : State) (h : Heap) (a : Addr) (v : Value) : Prop := Fld Z h a "com/example/portion/portion/server/OffsetSet" "pageCount" "I" v
abbrev jF1 (Z : State) (h : Heap) (a : Addr) (v : Value) : Prop := Fld Z h a "com/example/portion/portion/server/OffsetSet" "pages" "[Lcom/example/portion/portion/server/OffsetSet$Page;" v
abbrev jF2 (Z : State) (h : Heap) (a : Addr) (v : Value) : Prop := Fld Z h a "com/example/portion/portion/server/OffsetSet$Page" "firstFrom" "J" v
abbrev jF3 (Z : State) (h : Heap) (a : Addr) (v : Value) : Prop := Fld Z h a "com/example/portion/portion/server/OffsetSet$Page" "lastAt" "I" v
abbrev jF4 (Z : State) (h : Heap) (a : Addr) (v : Value) : Prop := Fld Z h a "com/example/portion/portion/server/OffsetSet$Page" "firstTo" "J" v
abbrev jF5 (Z : State) (h : Heap) (a : Addr) (v : Value) : Prop := Fld Z h a "com/example/portion/portion/server/OffsetSet$Page" "lastTo" "J" v
abbrev jF6 (Z : State) (h : Heap) (a : Addr) (v : Value) : Prop := Fld Z h a "com/example/portion/portion/server/OffsetSet$Page" "lastFrom" "J" v
abbrev jF7 (Z : State) (h : Heap) (a : Addr) (v : Value) : Prop := Fld Z h a "com/example/portion/portion/server/OffsetSet$Page" "end" "I" v
abbrev jF8 (Z : State) (h : Heap) (a : Addr) (v : Value) : Prop := Fld Z h a "com/example/portion/portion/server/OffsetSet$Page" "start" "I" v
abbrev jF9 (Z : State) (h : Heap) (a : Addr) (v : Value) : Prop := Fld Z h a "com/example/portion/portion/server/OffsetSet" "size" "J" v
abbrev jF10 (Z : State) (h : Heap) (a : Addr) (v : Value) : Prop := Fld Z h a "com/example/portion/portion/server/OffsetSet" "pageBytes" "I" v
abbrev jF11 (Z : State) (h : Heap) (a : Addr) (v : Value) : Prop := Fld Z h a "com/example/portion/portion/server/OffsetSet$Page" "size" "J" v
abbrev jF12 (Z : State) (h : Heap) (a : Addr) (v : Value) : Prop := Fld Z h a "com/example/portion/portion/server/OffsetSet$Page" "bytes" "[B" v
abbrev jF13 (Z : State) (h : Heap) (a : Addr) (v : Value) : Prop := Fld Z h a "com/example/portion/portion/server/OffsetSet$Page" "lastGap" "J" v
abbrev jF14 (Z : State) (h : Heap) (a : Addr) (v : Value) : Prop := Fld Z h a "com/example/portion/portion/server/OffsetSet$Page$Runs" "this$0" "Lcom/example/portion/portion/server/OffsetSet$Page;" v
abbrev jF15 (Z : State) (h : Heap) (a : Addr) (v : Value) : Prop := Fld Z h a "com/example/portion/portion/server/OffsetSet$Page$Runs" "from" "J" v
abbrev jF16 (Z : State) (h : Heap) (a : Addr) (v : Value) : Prop := Fld Z h a "com/example/portion/portion/server/OffsetSet$Page$Runs" "to" "J" v
abbrev jF17 (Z : State) (h : Heap) (a : Addr) (v : Value) : Prop := Fld Z h a "com/example/portion/portion/server/OffsetSet$Page$Runs" "at" "I" v
abbrev jE0 (Z : State) (h : Heap) (a : Addr) : Prop := Exa Z h a "com/example/portion/portion/server/OffsetSet"
abbrev jE1 (Z : State) (h : Heap) (a : Addr) : Prop := Exa Z h a "com/example/portion/portion/server/OffsetSet$Page"
abbrev jE2 (Z : State) (h : Heap) (a : Addr) : Prop := Exa Z h a "com/example/portion/portion/server/OffsetSet$Page$Runs"
abbrev jD0 (pc : Nat) (i : Jvm.ClassFile.Instr × Nat) : Prop := Jvm.ClassFile.decode prog_38_method_16_code pc = .ok i
abbrev jD1 (pc : Nat) (i : Jvm.ClassFile.Instr × Nat) : Prop := Jvm.ClassFile.decode jdk_29_method_65_code pc = .ok i
abbrev jD2 (pc : Nat) (i : Jvm.ClassFile.Instr × Nat) : Prop := Jvm.ClassFile.decode prog_38_method_18_code pc = .ok i
abbrev jD3 (pc : Nat) (i : Jvm.ClassFile.Instr × Nat) : Prop := Jvm.ClassFile.decode prog_39_method_3_code pc = .ok i
abbrev jD4 (pc : Nat) (i : Jvm.ClassFile.Instr × Nat) : Prop := Jvm.ClassFile.decode prog_39_method_2_code pc = .ok i
abbrev jD5 (pc : Nat) (i : Jvm.ClassFile.Instr × Nat) : Prop := Jvm.ClassFile.decode prog_39_method_4_code pc = .ok i
abbrev jD6 (pc : Nat) (i : Jvm.ClassFile.Instr × Nat) : Prop := Jvm.ClassFile.decode prog_38_method_2_code pc = .ok i
abbrev jD7 (pc : Nat) (i : Jvm.ClassFile.Instr × Nat) : Prop := Jvm.ClassFile.decode prog_39_method_1_code pc = .ok i
abbrev jD8 (pc : Nat) (i : Jvm.ClassFile.Instr × Nat) : Prop := Jvm.ClassFile.decode prog_38_method_24_code pc = .ok i
abbrev jD9 (pc : Nat) (i : Jvm.ClassFile.Instr × Nat) : Prop := Jvm.ClassFile.decode prog_39_method_20_code pc = .ok i
abbrev jD10 (pc : Nat) (i : Jvm.ClassFile.Instr × Nat) : Prop := Jvm.ClassFile.decode prog_39_method_19_code pc = .ok i
abbrev jD11 (pc : Nat) (i : Jvm.ClassFile.Instr × Nat) : Prop := Jvm.ClassFile.decode prog_39_method_17_code pc = .ok i
abbrev jD12 (pc : Nat) (i : Jvm.ClassFile.Instr × Nat) : Prop := Jvm.ClassFile.decode prog_39_method_18_code pc = .ok i
abbrev jD13 (pc : Nat) (i : Jvm.ClassFile.Instr × Nat) : Prop := Jvm.ClassFile.decode prog_39_method_16_code pc = .ok i
abbrev jD14 (pc : Nat) (i : Jvm.ClassFile.Instr × Nat) : Prop := Jvm.ClassFile.decode prog_39_method_5_code pc = .ok i
abbrev jD15 (pc : Nat) (i : Jvm.ClassFile.Instr × Nat) : Prop := Jvm.ClassFile.decode prog_39_method_13_code pc = .ok i
abbrev jD16 (pc : Nat) (i : Jvm.ClassFile.Instr × Nat) : Prop := Jvm.ClassFile.decode prog_38_method_20_code pc = .ok i
abbrev jD17 (pc : Nat) (i : Jvm.ClassFile.Instr × Nat) : Prop := Jvm.ClassFile.decode prog_38_method_19_code pc = .ok i
abbrev jD18 (pc : Nat) (i : Jvm.ClassFile.Instr × Nat) : Prop := Jvm.ClassFile.decode prog_38_method_9_code pc = .ok i
abbrev jD19 (pc : Nat) (i : Jvm.ClassFile.Instr × Nat) : Prop := Jvm.ClassFile.decode prog_38_method_8_code pc = .ok i
abbrev jD20 (pc : Nat) (i : Jvm.ClassFile.Instr × Nat) : Prop := Jvm.ClassFile.decode prog_38_method_13_code pc = .ok i
abbrev jD21 (pc : Nat) (i : Jvm.ClassFile.Instr × Nat) : Prop := Jvm.ClassFile.decode prog_38_method_3_code pc = .ok i
abbrev jD22 (pc : Nat) (i : Jvm.ClassFile.Instr × Nat) : Prop := Jvm.ClassFile.decode prog_38_method_7_code pc = .ok i
abbrev jD23 (pc : Nat) (i : Jvm.ClassFile.Instr × Nat) : Prop := Jvm.ClassFile.decode prog_38_method_4_code pc = .ok i
abbrev jD24 (pc : Nat) (i : Jvm.ClassFile.Instr × Nat) : Prop := Jvm.ClassFile.decode prog_38_method_5_code pc = .ok i
abbrev jD25 (pc : Nat) (i : Jvm.ClassFile.Instr × Nat) : Prop := Jvm.ClassFile.decode prog_40_method_1_code pc = .ok i
abbrev jD26 (pc : Nat) (i : Jvm.ClassFile.Instr × Nat) : Prop := Jvm.ClassFile.decode prog_39_method_11_code pc = .ok i
abbrev jQ0 (Z : State) : Nat := RoadKit.slotOf Z "com/example/portion/portion/server/OffsetSet" "size" "J"
abbrev jQ1 (Z : State) : Nat := RoadKit.slotOf Z "com/example/portion/portion/server/OffsetSet" "pages" "[Lcom/example/portion/portion/server/OffsetSet$Page;"
abbrev jQ2 (Z : State) : Nat := RoadKit.slotOf Z "com/example/portion/portion/server/OffsetSet" "pageCount" "I"
abbrev jQ3 (Z : State) : Nat := RoadKit.slotOf Z "com/example/portion/portion/server/OffsetSet" "pageBytes" "I"
abbrev jQ4 (Z : State) : Nat := RoadKit.slotOf Z "com/example/portion/portion/server/OffsetSet$Page" "size" "J"
abbrev jQ5 (Z : State) : Nat := RoadKit.slotOf Z "com/example/portion/portion/server/OffsetSet$Page" "bytes" "[B"
abbrev jQ6 (Z : State) : Nat := RoadKit.slotOf Z "com/example/portion/portion/server/OffsetSet$Page" "firstFrom" "J"
abbrev jQ7 (Z : State) : Nat := RoadKit.slotOf Z "com/example/portion/portion/server/OffsetSet$Page" "firstTo" "J"
abbrev jQ8 (Z : State) : Nat := RoadKit.slotOf Z "com/example/portion/portion/server/OffsetSet$Page" "start" "I"
abbrev jQ9 (Z : State) : Nat := RoadKit.slotOf Z "com/example/portion/portion/server/OffsetSet$Page" "end" "I"
abbrev jQ10 (Z : State) : Nat := RoadKit.slotOf Z "com/example/portion/portion/server/OffsetSet$Page" "lastAt" "I"
abbrev jQ11 (Z : State) : Nat := RoadKit.slotOf Z "com/example/portion/portion/server/OffsetSet$Page" "lastGap" "J"
abbrev jQ12 (Z : State) : Nat := RoadKit.slotOf Z "com/example/portion/portion/server/OffsetSet$Page" "lastFrom" "J"
abbrev jQ13 (Z : State) : Nat := RoadKit.slotOf Z "com/example/portion/portion/server/OffsetSet$Page" "lastTo" "J"
abbrev jQ14 (Z : State) : Nat := RoadKit.slotOf Z "com/example/portion/portion/server/OffsetSet$Page$Runs" "from" "J"
abbrev jQ15 (Z : State) : Nat := RoadKit.slotOf Z "com/example/portion/portion/server/OffsetSet$Page$Runs" "this$0" "Lcom/example/portion/portion/server/OffsetSet$Page;"
abbrev jQ16 (Z : State) : Nat := RoadKit.slotOf Z "com/example/portion/portion/server/OffsetSet$Page$Runs" "to" "J"
abbrev jQ17 (Z : State) : Nat := RoadKit.slotOf Z "com/example/portion/portion/server/OffsetSet$Page$Runs" "at" "I"
section OwnRef
variable {p : Program} {l : Launch} {e : Env} {R : Room} {Z s : State} {a0 : Array Value} {m : MethodId} {args : Array Value} {below : List Frame} {meth : Method} {c : Code} {T : State} {locs : List Loc} {cells slots : Nat} {h : Heap}
theorem own_getRef (X : Stand p l e R s m args below meth c T locs cells slots) (hx : p.tables.exec = Jvm.exec) (hZ : Z.Warmed39 s.vm) {own R0 O n d : String} {index : Nat} (hown : s.vm.findClass own = some m.cls) (w : (Cond.fieldRef own index R0 n d).before a0 Z = true) (via : Via Z R0 O n d)
    (eT : T.heap = h) {a : Addr} {v : Value} (F : Fld Z h a O n d v) {g : JFrame} (hg : g.method = m) {rest : List Value} (hs : g.stack = .ref a :: rest) (hd : decode c.code g.pc = .ok (.getfield index, 3)) : ∃ T', Stand p l e R s m args below meth c T' locs cells slots ∧ T'.heap = h ∧ ∀ target, Steps p.tables e below (T'.setTop { g with pc := g.pc + 3, stack := v :: rest }) target → Steps p.tables e below (T.setTop g) target := by
  obtain ⟨cell, cf, k, i, f, h1, h2, h3, h4, -, -, h7⟩ := F
  have hW := wtrans hZ X.warmed
  have w' : (Cond.fieldRef own index R0 n d).before a0 (Z.setVm T.vm) = true := Cond.fieldRef_warmed39 hW w
  have hcur : (Z.setVm T.vm).vm.findClass own = some m.cls := by
    show T.vm.findClass own = _
    rw [X.warmed.alike.findClass]; exact hown
  obtain ⟨k', hi, -⟩ := State.fieldFound?_setVm (s := Z) (vm' := T.vm) hW.alike (via _ h2)
  obtain ⟨c2, k2, i2, f2, g1, g2⟩ := Cond.fieldRef_spec hcur w'
  cases hi.symm.trans g1
  refine ⟨T, X, eT, fun target hr => ?_⟩
  subst hg
  have hc : T.heap[a]? = some cell := by rw [eT]; exact h1
  jvm_step X.here [hx, hd, getfield.wp_ready (e := e) (s := T) (f := g) X.here.top g2 h3 hs hc h4 h7]
  exact hr
theorem own_specialRef (X : Stand p l e R s m args below meth c T locs cells slots) (hexec : p.tables.exec = Jvm.exec) (hZ : Z.Warmed39 s.vm) {own : String} {index : Nat} {y : MethodName} (hy1 : y.name = "<init>")
    (hown : s.vm.findClass own = some m.cls) (hlink : (Cond.methodRef own index y).before a0 Z = true) (hinstZ : (Cond.instanceMethod y).before a0 Z = true)
    {bytes : ByteArray} {maxL : Nat} (hcode : (Cond.code y bytes maxL none).before args s = true)
    (hy : y.cls ≠ "java/lang/invoke/MethodHandle" ∧ y.cls ≠ "java/lang/invoke/VarHandle")
    {W : Nat} {Pre : Pt → Array Value → Prop} {Post : Pt → Array Value → Option Value → Pt → Prop} (hK : Back l R p e below s args y 3 W Pre Post)
    {g : JFrame} (hg : g.method = m) (hsize : g.locals.size = c.maxLocals) {s₀ : State} (hcome : Steps p.tables e below s₀ (T.setTop g)) {a : Addr} {argsL rest : List Value}
    (hlen : ∀ sig, parseMethodDescriptor y.desc = some sig → argsL.length = sig.parameters.length) (hstack : g.stack = argsL.reverse ++ .ref a :: rest) (hW : 2 * g.monitorRoom + (rest.map fun v => v.category).sum ≤ W)
    (hdg : decode c.code g.pc = .ok (.invokespecial index, 3)) (hpre : ∀ vm₁, s.WarmedH vm₁ → Pre ⟨T.setVm vm₁, locs, cells, slots⟩ (.ref a :: argsL).toArray) :
    ∃ (v : Option Value) (vm₁ : Vm) (B : Pt), s.WarmedH vm₁ ∧ Stand p l e R s m args below meth c B.U B.locs B.cells B.slots ∧ Post ⟨T.setVm vm₁, locs, cells, slots⟩ (.ref a :: argsL).toArray v B ∧
      Steps p.tables e below s₀ (B.U.setTop { g with pc := g.pc + 3, stack := v.toList ++ rest }) := by
  have hinst : (Cond.instanceMethod y).before args s = true := mvT hZ hinstZ
  obtain ⟨objZ, _, hnZ, -⟩ := Cond.instanceMethod_spec hinstZ
  obtain ⟨obj, methO, hnO, hmO, hstO, habO⟩ := Cond.instanceMethod_spec hinst
  obtain ⟨methO', cO, hmO', hcO, hbO, hlO, -, hlockO, -, hsigO⟩ := Cond.code_spec hnO hcode
  cases hmO.symm.trans hmO'
  obtain ⟨kO, hkO, hnameO⟩ := className_of_methodNamed hnO
  obtain ⟨hnameMO, hdescO⟩ := name_of_methodNamed hnO hmO
  have hwarm := X.warmed
  have w' := Cond.methodRef_warmed39 (wtrans hZ hwarm) hnZ hy hlink
  have hcur : (Z.setVm T.vm).vm.findClass own = some m.cls := by
    show T.vm.findClass own = _
    rw [hwarm.alike.findClass]; exact hown
  obtain ⟨mm, c', q1, q2, q3, q4⟩ := Cond.methodRef_named e hcur w'
  have q1' : T.methodFound? y.cls y.name y.desc = some mm := q1
  have nT : T.methodNamed? y = some obj := X.named hnO
  cases (State.methodFound?_of_named nT hy).symm.trans q1'
  have q3' : T.vm.findClass y.cls = some c' := q3
  cases (findClass_of_methodNamed nT).symm.trans q3'
  obtain ⟨kO₂, hkO₂, heO₂⟩ := hwarm.alike.2.2 _ _ hkO
  have hmO₂ : T.vm.method? obj = some methO := by rw [hwarm.alike.method?]; exact hmO
  have hfound : lookupSpecial T.vm obj.cls "<init>" methO.desc = .method obj := by
    rw [hwarm.alike.lookupSpecial, hdescO, ← hy1]; exact lookupSpecial_of_named hnO hmO hstO
  obtain ⟨v, B, X', hpost, hsteps⟩ := hK m meth c ⟨T.setVm T.vm, locs, cells, slots⟩ { g with stack := rest } (.invokespecial index) obj (.ref a :: argsL).toArray X hg hsize hdg hW nT (hpre T.vm hwarm)
  refine ⟨v, T.vm, B, hwarm, X', hpost, hcome.trans ?_⟩
  subst hg
  jvm_step X.here [hexec, hdg, invokespecial.wp_init (e := e) (s := T) (k := kO₂) (meth := methO) (m := obj) (a := a) (args := argsL) (rest := rest) (f := g) X.here.top q4 q2 hkO₂ hmO₂ (by rw [hnameMO]; exact hy1) hstO habO hfound (hlen _ hsigO) hstack]
  intro acts
  rw [doInvoke_state]
  exact hsteps
end OwnRef
theorem own_mvMN {Z s : State} {a0 args : Array Value} {own host : String} {x : MethodName} {index : Nat} (hZ : Z.Warmed39 s.vm) (w : (Jvm.Cond.methodLinkNest own index x host).before a0 Z = true) : (Jvm.Cond.methodLinkNest own index x host).before args s = true := (Cond.methodLinkNest_wide hZ w :)
theorem own_selP {Z s : State} {a0 args : Array Value} {y : MethodName} {n : Nat} (hZ : Z.Warmed39 s.vm) (wi : (Jvm.Cond.instantiable y.cls n).before a0 Z = true) (wp : (Jvm.Cond.privateMethod y).before a0 Z = true) (wn : (Jvm.Cond.instanceMethod y).before a0 Z = true) (hy : y.cls ≠ "java/lang/invoke/MethodHandle" ∧ y.cls ≠ "java/lang/invoke/VarHandle") : (Jvm.Cond.selects y.cls y y).before args s = true := by
  obtain ⟨t', k', g1, g2, g5, g7, -, -⟩ := Cond.instantiable_spec wi
  have g8 : k'.isInterface = false := by cases hq : k'.isInterface <;> simp [hq] at g7 ⊢
  exact mvT hZ (selects_self_of_private g1 g2 g8 (Cond.privateMethod_at wp) wn hy)
theorem own_i0 : (0 : Int32).toInt = 0 := rfl
theorem own_i1 : (1 : Int32).toInt = 1 := rfl
theorem own_i19 : (19 : Int32).toInt = 19 := rfl
theorem own_i28 : (28 : Int32).toInt = 28 := rfl
theorem own_l0 : (0 : Int64).toInt = 0 := rfl
theorem own_l1 : (1 : Int64).toInt = 1 := rfl
theorem own_l2 : (2 : Int64).toInt = 2 := rfl
theorem own_e1 {e : Int32} (h : 0 ≤ e.toInt ∧ e.toInt ≤ 1000) : (e + (1 : Int32)).toInt = e.toInt + 1 := by
  have a := c_iadd e (1 : Int32)
  have r := rng32 (e + 1)
  rw [own_i1] at a
  omega
theorem own_pl {j : Int32} (h : 0 ≤ j.toInt ∧ j.toInt < 28) : ¬ j < 0 ∧ j < (28 : Int32) := by
  rw [Int32.lt_iff_toInt_lt, Int32.lt_iff_toInt_lt, own_i28, own_i0]; omega
theorem own_pn {j : Int32} {n : Nat} (h : 0 ≤ j.toInt ∧ j.toInt < 28) (hl : n = 28) : j.toNatClampNeg < n := by
  simp only [Int32.toNatClampNeg]; omega
theorem own_and0 : ∀ n : Fin 128, (Int64.ofNat n.val &&& (-128 : Int64)) = 0 := by decide +kernel
theorem own_low {x : Int64} (h : 0 ≤ x.toInt ∧ x.toInt < 128) : (x &&& (-128 : Int64)) = (0 : Int64) := by
  obtain ⟨n, hn⟩ := Int.eq_ofNat_of_zero_le h.1
  have hx : x = Int64.ofNat n := by
    rw [← Int64.ofInt_toInt x, hn]; rfl
  rw [hx]
  exact own_and0 ⟨n, by omega⟩
theorem own_sh7 {x : Int64} (h : 0 ≤ x.toInt) : ((x.toUInt64 >>> ((7 : Int32) &&& 0x3f).toInt64.toUInt64).toInt64).toInt = x.toInt / 128 := by
  have q := c_lushr x (7 : Int32) 7 (by decide) (by decide)
  have r := rng64 x
  rw [q]; simp only [Nat.reducePow]; omega
theorem own_sh6 {x : Int64} (h : 0 ≤ x.toInt) : ((x.toUInt64 >>> ((6 : Int32) &&& 0x3f).toInt64.toUInt64).toInt64).toInt = x.toInt / 64 := by
  have q := c_lushr x (6 : Int32) 6 (by decide) (by decide)
  have r := rng64 x
  rw [q]; simp only [Nat.reducePow]; omega
theorem own_sub1 {g : Int64} (h : 1 ≤ g.toInt) : (g - (1 : Int64)).toInt = g.toInt - 1 := by
  have a := c_lsub g (1 : Int64)
  have r := rng64 (g - 1)
  have r2 := rng64 g
  rw [own_l1] at a
  omega
theorem own_bc (e : Int32) : e - (0 : Int32) = e := by simp
theorem own_sz1 (a : Int64) : (0 : Int64) + (((a + (1 : Int64)) - a) - (0 : Int64)) = (1 : Int64) := by
  have : (a + (1 : Int64)) - a = 1 := by rw [Int64.add_comm, Int64.add_sub_cancel]
  rw [this]; rfl
theorem own_sz2 (a : Int64) : (a + (1 : Int64)) - a = (1 : Int64) := by rw [Int64.add_comm, Int64.add_sub_cancel]
theorem own_mr {e : Int32} (h : 0 ≤ e.toInt ∧ e.toInt ≤ 7) : ¬ (28 : Int32) < e + (19 : Int32) := by
  have a := c_iadd e (19 : Int32)
  have r := rng32 (e + 19)
  rw [own_i19] at a
  rw [Int32.lt_iff_toInt_lt, own_i28]; omega
theorem own_tr {e : Int32} (h : 1 ≤ e.toInt ∧ e.toInt ≤ 7) : e - (0 : Int32) < (28 : Int32) := by
  rw [own_bc, Int32.lt_iff_toInt_lt, own_i28]; omega
theorem own_pb0 {b : Int32} (h : 1 ≤ b.toInt) : (0 : Int32) - (0 : Int32) < b := by
  rw [own_bc, Int32.lt_iff_toInt_lt, own_i0]; omega
theorem e5_0 : jD0 0 (.lload_n 0, 1) ∧ jD0 1 (.lconst 0, 1) ∧ jD0 2 (.lcmp, 1) ∧ jD0 3 (.ifCond .lt 9, 3) := by decide +kernel
theorem e5_6 : jD0 6 (.lload_n 2, 1) ∧ jD0 7 (.lload_n 0, 1) ∧ jD0 8 (.lcmp, 1) ∧ jD0 9 (.ifCond .gt 18, 3) := by decide +kernel
theorem d5_27 : jD0 27 (.return_, 1) := by decide +kernel
theorem own_pn_com_example_portion_portion_server_OffsetSet : plainName "com/example/portion/portion/server/OffsetSet" = true := by first | (simp [plainName, overriddenIn]; done) | decide +kernel
theorem own_ef_rm_req (mM : MethodId) (x0 : Int64) (x1 : Int64) : entryFrame mM #[(.long x0), (.long x1)] 4 = mkF mM 0 #[.val (.long x0), .second, .val (.long x1), .second] [] := by first | (simp [entryFrame, mkF, argsToLocals, Value.category]; done) | rfl
def Q_rm_req (Z : State) (f : Int64) (t : Int64) (h0 : Heap) (n0 : Nat) (vV : Option Value) (hH : Heap) (lA : List Loc) : Prop := vV = none ∧ Fr n0 lA ∧ (hH = h0)
set_option maxRecDepth 65536 in
set_option maxHeartbeats 40000000 in
theorem rm_req (lL : Launch) (Z : State) (a0 : Array Value) (hw : own_H a0 Z) (ws : List Jvm.Cond) (f : Int64) (t : Int64) (h0 : Heap) (n0 : Nat) (Z0 : n0 ≤ h0.size) (c1 : ¬ (f < (0 : Int64))) (c2 : f < t) :
    own_Met lL jy0 (Jvm.Cond.code jy0 prog_38_method_16_code 4 none :: ws) jr0 #[(.long f), (.long t)] Z h0 (Q_rm_req Z f t h0 n0) := by
  refine own_begin (plainFor_of_name own_pn_com_example_portion_portion_server_OffsetSet) (fun mM => own_ef_rm_req mM f t) fun pP eE sS mM below meth cC s₁ hx hby hml hZ hown hnm hre hlk X0 e0 => ?_
  have hC := @Jvm.hb _ _ hby
  have N0 := Fr.nil n0
  have K0 := Keep.refl h0 ([] : List Addr)
  let ll1 : Array Slot := #[vJ f, vS, vJ t, vS]
  refine jg s₁ mM 27 ll1 [] (fun tT kK => ?_) ?_
  · refine XS.lloadN X0.here hx rfl (hC e5_0.1) rfl ?_
    refine XS.lconst X0.here hx rfl (hC e5_0.2.1) ?_
    refine XS.lcmp X0.here hx rfl (hC e5_0.2.2.1) rfl ?_
    refine XS.ifNo X0.here hx rfl (hC e5_0.2.2.2) rfl ((if0 _ _).trans (flt (mt (lw_lt f (0 : Int64)).mp (c1 : ¬ (f < (0 : Int64))))).1) ?_
    refine XS.lloadN X0.here hx rfl (hC e5_6.1) rfl ?_
    refine XS.lloadN X0.here hx rfl (hC e5_6.2.1) rfl ?_
    refine XS.lcmp X0.here hx rfl (hC e5_6.2.2.1) rfl ?_
    refine XS.ifYes X0.here hx rfl (pc0 := 9) (pc' := 27) rfl (hC e5_6.2.2.2) rfl ((if0 _ _).trans (tlt ((lw_gt t f).mpr (c2 : f < t))).2.2.1) (by decide) (by decide) ?_
    exact kK
  exact own_rV X0 hx hlk hre (hC d5_27) e0 (by decide) (by decide) ⟨rfl, N0, rfl⟩
theorem e7_0 : jD1 0 (.iload_n 0, 1) ∧ jD1 1 (.iload_n 1, 1) ∧ jD1 2 (.if_icmp .lt 7, 3) ∧ jD1 5 (.iload_n 0, 1) := by decide +kernel
theorem e7_6 : jD1 6 (.goto 4, 3) ∧ jD1 10 (.ireturn, 1) := by decide +kernel
theorem own_ef_rm_mxa (mM : MethodId) (x0 : Int32) (x1 : Int32) : entryFrame mM #[(.int x0), (.int x1)] 2 = mkF mM 0 #[.val (.int x0), .val (.int x1)] [] := by first | (simp [entryFrame, mkF, argsToLocals, Value.category]; done) | rfl
def Q_rm_mxa (Z : State)  (h0 : Heap) (n0 : Nat) (vV : Option Value) (hH : Heap) (lA : List Loc) : Prop := vV = some (.int (0 : Int32)) ∧ Fr n0 lA ∧ (hH = h0)
set_option maxRecDepth 65536 in
set_option maxHeartbeats 40000000 in
theorem rm_mxa (lL : Launch) (Z : State) (a0 : Array Value) (hw : own_H a0 Z) (ws : List Jvm.Cond)  (h0 : Heap) (n0 : Nat) (Z0 : n0 ≤ h0.size) :
    own_Met lL jy1 (Jvm.Cond.code jy1 jdk_29_method_65_code 2 (some .int) :: ws) jr0 #[(.int (0 : Int32)), (.int (-1 : Int32))] Z h0 (Q_rm_mxa Z  h0 n0) := by
  refine own_begin (Jvm.Free.JP.mathPlain rfl (by decide +kernel)) (fun mM => own_ef_rm_mxa mM (0 : Int32) (-1 : Int32)) fun pP eE sS mM below meth cC s₁ hx hby hml hZ hown hnm hre hlk X0 e0 => ?_
  have hC := @Jvm.hb _ _ hby
  have N0 := Fr.nil n0
  have K0 := Keep.refl h0 ([] : List Addr)
  let ll1 : Array Slot := #[vI 0, vI (-1)]
  refine jg s₁ mM 10 ll1 [(.int (0 : Int32))] (fun tT kK => ?_) ?_
  · refine XS.iloadN X0.here hx rfl (hC e7_0.1) rfl ?_
    refine XS.iloadN X0.here hx rfl (hC e7_0.2.1) rfl ?_
    refine XS.icmpNo X0.here hx rfl (hC e7_0.2.2.1) rfl (flt ((by decide) : ¬ ((0 : Int32) < (-1 : Int32)))).1 ?_
    refine XS.iloadN X0.here hx rfl (hC e7_0.2.2.2) rfl ?_
    refine XS.goto X0.here hx rfl (pc0 := 6) (pc' := 10) rfl (hC e7_6.1) (by decide) (by decide) ?_
    exact kK
  exact own_rr X0 hx hlk hre rfl (Or.inl ⟨rfl, Or.inl rfl, _, rfl⟩) (hC e7_6.2) e0 (by decide) (by decide) ⟨rfl, N0, rfl⟩
theorem own_ef_rm_mxb (mM : MethodId) (x0 : Int32) (x1 : Int32) : entryFrame mM #[(.int x0), (.int x1)] 2 = mkF mM 0 #[.val (.int x0), .val (.int x1)] [] := by first | (simp [entryFrame, mkF, argsToLocals, Value.category]; done) | rfl
def Q_rm_mxb (Z : State)  (h0 : Heap) (n0 : Nat) (vV : Option Value) (hH : Heap) (lA : List Loc) : Prop := vV = some (.int (0 : Int32)) ∧ Fr n0 lA ∧ (hH = h0)
set_option maxRecDepth 65536 in
set_option maxHeartbeats 40000000 in
theorem rm_mxb (lL : Launch) (Z : State) (a0 : Array Value) (hw : own_H a0 Z) (ws : List Jvm.Cond)  (h0 : Heap) (n0 : Nat) (Z0 : n0 ≤ h0.size) :
    own_Met lL jy1 (Jvm.Cond.code jy1 jdk_29_method_65_code 2 (some .int) :: ws) jr0 #[(.int (0 : Int32)), (.int (0 : Int32))] Z h0 (Q_rm_mxb Z  h0 n0) := by
  refine own_begin (Jvm.Free.JP.mathPlain rfl (by decide +kernel)) (fun mM => own_ef_rm_mxb mM (0 : Int32) (0 : Int32)) fun pP eE sS mM below meth cC s₁ hx hby hml hZ hown hnm hre hlk X0 e0 => ?_
  have hC := @Jvm.hb _ _ hby
  have N0 := Fr.nil n0
  have K0 := Keep.refl h0 ([] : List Addr)
  let ll1 : Array Slot := #[vI 0, vI 0]
  refine jg s₁ mM 10 ll1 [(.int (0 : Int32))] (fun tT kK => ?_) ?_
  · refine XS.iloadN X0.here hx rfl (hC e7_0.1) rfl ?_
    refine XS.iloadN X0.here hx rfl (hC e7_0.2.1) rfl ?_
    refine XS.icmpNo X0.here hx rfl (hC e7_0.2.2.1) rfl (flt ((by decide) : ¬ ((0 : Int32) < (0 : Int32)))).1 ?_
    refine XS.iloadN X0.here hx rfl (hC e7_0.2.2.2) rfl ?_
    refine XS.goto X0.here hx rfl (pc0 := 6) (pc' := 10) rfl (hC e7_6.1) (by decide) (by decide) ?_
    exact kK
  exact own_rr X0 hx hlk hre rfl (Or.inl ⟨rfl, Or.inl rfl, _, rfl⟩) (hC e7_6.2) e0 (by decide) (by decide) ⟨rfl, N0, rfl⟩
theorem d7_9 : jD1 9 (.iload_n 1, 1) := by decide +kernel
theorem own_ef_rm_mxc (mM : MethodId) (x0 : Int32) (x1 : Int32) : entryFrame mM #[(.int x0), (.int x1)] 2 = mkF mM 0 #[.val (.int x0), .val (.int x1)] [] := by first | (simp [entryFrame, mkF, argsToLocals, Value.category]; done) | rfl
def Q_rm_mxc (Z : State)  (h0 : Heap) (n0 : Nat) (vV : Option Value) (hH : Heap) (lA : List Loc) : Prop := vV = some (.int (28 : Int32)) ∧ Fr n0 lA ∧ (hH = h0)
set_option maxRecDepth 65536 in
set_option maxHeartbeats 40000000 in
theorem rm_mxc (lL : Launch) (Z : State) (a0 : Array Value) (hw : own_H a0 Z) (ws : List Jvm.Cond)  (h0 : Heap) (n0 : Nat) (Z0 : n0 ≤ h0.size) :
    own_Met lL jy1 (Jvm.Cond.code jy1 jdk_29_method_65_code 2 (some .int) :: ws) jr0 #[(.int (16 : Int32)), (.int (28 : Int32))] Z h0 (Q_rm_mxc Z  h0 n0) := by
  refine own_begin (Jvm.Free.JP.mathPlain rfl (by decide +kernel)) (fun mM => own_ef_rm_mxc mM (16 : Int32) (28 : Int32)) fun pP eE sS mM below meth cC s₁ hx hby hml hZ hown hnm hre hlk X0 e0 => ?_
  have hC := @Jvm.hb _ _ hby
  have N0 := Fr.nil n0
  have K0 := Keep.refl h0 ([] : List Addr)
  let ll1 : Array Slot := #[vI 16, vI 28]
  refine jg s₁ mM 10 ll1 [(.int (28 : Int32))] (fun tT kK => ?_) ?_
  · refine XS.iloadN X0.here hx rfl (hC e7_0.1) rfl ?_
    refine XS.iloadN X0.here hx rfl (hC e7_0.2.1) rfl ?_
    refine XS.icmpYes X0.here hx rfl (pc0 := 2) (pc' := 9) rfl (hC e7_0.2.2.1) rfl (tlt ((by decide) : (16 : Int32) < (28 : Int32))).1 (by decide) (by decide) ?_
    refine XS.iloadN X0.here hx rfl (hC d7_9) rfl ?_
    exact kK
  exact own_rr X0 hx hlk hre rfl (Or.inl ⟨rfl, Or.inl rfl, _, rfl⟩) (hC e7_6.2) e0 (by decide) (by decide) ⟨rfl, N0, rfl⟩
theorem e6_0 : jD2 0 (.iconst 0, 1) ∧ jD2 1 (.istore_n 3, 1) ∧ jD2 2 (.aload_n 0, 1) ∧ jD2 3 (.getfield 109, 3) := by decide +kernel
theorem e6_6 : jD2 6 (.iconst 1, 1) ∧ jD2 7 (.isub, 1) ∧ jD2 8 (.istore 4, 2) ∧ jD2 10 (.iload_n 3, 1) := by decide +kernel
theorem e6_11 : jD2 11 (.iload 4, 2) ∧ jD2 13 (.if_icmp .gt 43, 3) ∧ jD2 56 (.iload 4, 2) ∧ jD2 58 (.ireturn, 1) := by decide +kernel
theorem own_ef_rm_pa0 (mM : MethodId) (x0 : Addr) (x1 : Int64) : entryFrame mM #[(.ref x0), (.long x1)] 6 = mkF mM 0 #[.val (.ref x0), .val (.long x1), .second, .unset, .unset, .unset] [] := by first | (simp [entryFrame, mkF, argsToLocals, Value.category]; done) | rfl
def Q_rm_pa0 (Z : State) (st : Addr) (o : Int64) (h0 : Heap) (n0 : Nat) (vV : Option Value) (hH : Heap) (lA : List Loc) : Prop := vV = some (.int (-1 : Int32)) ∧ Fr n0 lA ∧ (hH = h0)
set_option maxRecDepth 65536 in
set_option maxHeartbeats 40000000 in
theorem rm_pa0 (lL : Launch) (Z : State) (a0 : Array Value) (hw : own_H a0 Z) (ws : List Jvm.Cond) (st : Addr) (o : Int64) (h0 : Heap) (n0 : Nat) (Z0 : n0 ≤ h0.size) (Fc : jF0 Z h0 st (.int (0 : Int32))) :
    own_Met lL jy2 (Jvm.Cond.code jy2 prog_38_method_18_code 6 (some .int) :: ws) jr0 #[(.ref st), (.long o)] Z h0 (Q_rm_pa0 Z st o h0 n0) := by
  refine own_begin (plainFor_of_name own_pn_com_example_portion_portion_server_OffsetSet) (fun mM => own_ef_rm_pa0 mM st o) fun pP eE sS mM below meth cC s₁ hx hby hml hZ hown hnm hre hlk X0 e0 => ?_
  have hC := @Jvm.hb _ _ hby
  have N0 := Fr.nil n0
  have K0 := Keep.refl h0 ([] : List Addr)
  let ll1 : Array Slot := #[vR st, vJ o, vS, vI 0, vU, vU]
  refine jg s₁ mM 3 ll1 [(.ref st)] (fun tT kK => ?_) ?_
  · refine XS.iconst X0.here hx rfl (hC e6_0.1) ?_
    refine XS.istoreN X0.here hx rfl (hC e6_0.2.1) rfl (l' := ll1) rfl ?_
    refine XS.aloadN X0.here hx rfl (hC e6_0.2.2.1) rfl rfl ?_
    exact kK
  refine jf X0 hx hZ hown (jk hw 37 rfl) e0 Fc (hC e6_0.2.2.2) fun T1_ X1_ e1_ => ?_
  let ll2 : Array Slot := #[vR st, vJ o, vS, vI 0, vI (-1), vU]
  refine jg T1_ mM 58 ll2 [(.int (-1 : Int32))] (fun tT kK => ?_) ?_
  · refine XS.iconst X1_.here hx rfl (hC e6_6.1) ?_
    refine XS.isub X1_.here hx rfl (hC e6_6.2.1) rfl ?_
    refine XS.istore X1_.here hx rfl (hC e6_6.2.2.1) rfl (l' := ll2) rfl ?_
    refine XS.iloadN X1_.here hx rfl (hC e6_6.2.2.2) rfl ?_
    refine XS.iload X1_.here hx rfl (hC e6_11.1) rfl ?_
    refine XS.icmpYes X1_.here hx rfl (pc0 := 13) (pc' := 56) rfl (hC e6_11.2.1) rfl (tlt ((by decide) : (-1 : Int32) < (0 : Int32))).2.2.1 (by decide) (by decide) ?_
    refine XS.iload X1_.here hx rfl (hC e6_11.2.2.1) rfl ?_
    exact kK
  exact own_rr X1_ hx hlk hre rfl (Or.inl ⟨rfl, Or.inl rfl, _, rfl⟩) (hC e6_11.2.2.2) e1_ (by decide) (by decide) ⟨rfl, N0, rfl⟩
theorem e6_16 : jD2 16 (.iload_n 3, 1) ∧ jD2 17 (.iload 4, 2) ∧ jD2 19 (.iadd, 1) ∧ jD2 20 (.iconst 1, 1) := by decide +kernel
theorem e6_21 : jD2 21 (.iushr, 1) ∧ jD2 22 (.istore 5, 2) ∧ jD2 24 (.aload_n 0, 1) ∧ jD2 25 (.getfield 16, 3) := by decide +kernel
theorem e6_28 : jD2 28 (.iload 5, 2) ∧ jD2 30 (.aaload, 1) ∧ jD2 31 (.getfield 34, 3) ∧ jD2 34 (.lload_n 1, 1) := by decide +kernel
theorem e6_35 : jD2 35 (.lcmp, 1) ∧ jD2 36 (.ifCond .gt 11, 3) ∧ jD2 39 (.iload 5, 2) ∧ jD2 41 (.iconst 1, 1) := by decide +kernel
theorem e6_42 : jD2 42 (.iadd, 1) ∧ jD2 43 (.istore_n 3, 1) ∧ jD2 44 (.goto 9, 3) ∧ jD2 53 (.goto (-43), 3) := by decide +kernel
theorem own_ef_rm_pay (mM : MethodId) (x0 : Addr) (x1 : Int64) : entryFrame mM #[(.ref x0), (.long x1)] 6 = mkF mM 0 #[.val (.ref x0), .val (.long x1), .second, .unset, .unset, .unset] [] := by first | (simp [entryFrame, mkF, argsToLocals, Value.category]; done) | rfl
def Q_rm_pay (Z : State) (st : Addr) (pa : Addr) (pg : Addr) (kq : ClassId) (o : Int64) (ff : Int64) (h0 : Heap) (n0 : Nat) (vV : Option Value) (hH : Heap) (lA : List Loc) : Prop := vV = some (.int (0 : Int32)) ∧ Fr n0 lA ∧ (hH = h0)
set_option maxRecDepth 65536 in
set_option maxHeartbeats 40000000 in
theorem rm_pay (lL : Launch) (Z : State) (a0 : Array Value) (hw : own_H a0 Z) (ws : List Jvm.Cond) (st : Addr) (pa : Addr) (pg : Addr) (kq : ClassId) (o : Int64) (ff : Int64) (h0 : Heap) (n0 : Nat) (Z0 : n0 ≤ h0.size) (Fc : jF0 Z h0 st (.int (1 : Int32))) (Fp : jF1 Z h0 st (.ref pa)) (Vp : Arv Z h0 pa kq (.object "com/example/portion/portion/server/OffsetSet$Page") (2 : Int32) [(.ref pg), .null] .null) (Ff : jF2 Z h0 pg (.long ff)) (c : ¬ (o < ff)) :
    own_Met lL jy2 (Jvm.Cond.code jy2 prog_38_method_18_code 6 (some .int) :: ws) jr0 #[(.ref st), (.long o)] Z h0 (Q_rm_pay Z st pa pg kq o ff h0 n0) := by
  refine own_begin (plainFor_of_name own_pn_com_example_portion_portion_server_OffsetSet) (fun mM => own_ef_rm_pay mM st o) fun pP eE sS mM below meth cC s₁ hx hby hml hZ hown hnm hre hlk X0 e0 => ?_
  have hC := @Jvm.hb _ _ hby
  have N0 := Fr.nil n0
  have K0 := Keep.refl h0 ([] : List Addr)
  let ll1 : Array Slot := #[vR st, vJ o, vS, vI 0, vU, vU]
  refine jg s₁ mM 3 ll1 [(.ref st)] (fun tT kK => ?_) ?_
  · refine XS.iconst X0.here hx rfl (hC e6_0.1) ?_
    refine XS.istoreN X0.here hx rfl (hC e6_0.2.1) rfl (l' := ll1) rfl ?_
    refine XS.aloadN X0.here hx rfl (hC e6_0.2.2.1) rfl rfl ?_
    exact kK
  refine jf X0 hx hZ hown (jk hw 37 rfl) e0 Fc (hC e6_0.2.2.2) fun T1_ X1_ e1_ => ?_
  let ll2 : Array Slot := #[vR st, vJ o, vS, vI 0, vI 0, vI 0]
  refine jg T1_ mM 25 ll2 [(.ref st)] (fun tT kK => ?_) ?_
  · refine XS.iconst X1_.here hx rfl (hC e6_6.1) ?_
    refine XS.isub X1_.here hx rfl (hC e6_6.2.1) rfl ?_
    let ll3 : Array Slot := #[vR st, vJ o, vS, vI 0, vI 0, vU]
    refine XS.istore X1_.here hx rfl (hC e6_6.2.2.1) rfl (l' := ll3) rfl ?_
    refine XS.iloadN X1_.here hx rfl (hC e6_6.2.2.2) rfl ?_
    refine XS.iload X1_.here hx rfl (hC e6_11.1) rfl ?_
    refine XS.icmpNo X1_.here hx rfl (hC e6_11.2.1) rfl (flt ((by decide) : ¬ ((0 : Int32) < (0 : Int32)))).2.2.1 ?_
    refine XS.iloadN X1_.here hx rfl (hC e6_16.1) rfl ?_
    refine XS.iload X1_.here hx rfl (hC e6_16.2.1) rfl ?_
    refine XS.iadd X1_.here hx rfl (hC e6_16.2.2.1) rfl ?_
    refine XS.iconst X1_.here hx rfl (hC e6_16.2.2.2) ?_
    refine XS.iushr X1_.here hx rfl (hC e6_21.1) rfl ?_
    refine XS.istore X1_.here hx rfl (hC e6_21.2.1) rfl (l' := ll2) rfl ?_
    refine XS.aloadN X1_.here hx rfl (hC e6_21.2.2.1) rfl rfl ?_
    exact kK
  refine jf X1_ hx hZ hown (jk hw 16 rfl) e1_ Fp (hC e6_21.2.2.2) fun T2_ X2_ e2_ => ?_
  refine jg T2_ mM 30 ll2 [(.int (0 : Int32)), (.ref pa)] (fun tT kK => ?_) ?_
  · refine XS.iload X2_.here hx rfl (hC e6_28.1) rfl ?_
    exact kK
  obtain ⟨cl3_, Ar3_, qk3_, Sz3_, Nn3_, Hh3_, Gg3_⟩ := id Vp
  have hin4_ : ¬ ((0 : Int32) < 0 ∨ cl3_.slots.size ≤ ((0 : Int32)).toNatClampNeg) := inb_of Sz3_ ⟨by decide, by decide⟩
  have hat4_ : cl3_.slots[((0 : Int32)).toNatClampNeg]? = some (.ref pg) := Hh3_.at hin4_ rfl
  refine jg T2_ mM 31 ll2 [(.ref pg)] (fun tT kK => ?_) ?_
  · refine X2_.aaload hx (j := (0 : Int32)) (v := (.ref pg)) (own_rw e2_ Ar3_.1) (State.isArrayOf_alike hZ.alike Ar3_.2.1) rfl Ar3_.2.2 hin4_ hat4_ (g := (mkF mM 30 ll2 [(.int (0 : Int32)), (.ref pa)])) rfl rfl (hC e6_28.2.1) _ ?_
    exact kK
  obtain ⟨T5_, X5_, e5_, st5_⟩ := own_getRef X2_ hx hZ hown (jk hw 94 rfl) Via.refl e2_ Ff (g := (mkF mM 31 ll2 [(.ref pg)])) rfl rfl (hC e6_28.2.2.1)
  refine own_fin st5_ ?_
  let ll4 : Array Slot := #[vR st, vJ o, vS, vI 1, vI 0, vI 0]
  refine jg T5_ mM 58 ll4 [(.int (0 : Int32))] (fun tT kK => ?_) ?_
  · refine XS.lloadN X5_.here hx rfl (hC e6_28.2.2.2) rfl ?_
    refine XS.lcmp X5_.here hx rfl (hC e6_35.1) rfl ?_
    refine XS.ifNo X5_.here hx rfl (hC e6_35.2.1) rfl ((if0 _ _).trans (flt (mt (lw_gt ff o).mp (c : ¬ (o < ff)))).2.2.1) ?_
    refine XS.iload X5_.here hx rfl (hC e6_35.2.2.1) rfl ?_
    refine XS.iconst X5_.here hx rfl (hC e6_35.2.2.2) ?_
    refine XS.iadd X5_.here hx rfl (hC e6_42.1) rfl ?_
    refine XS.istoreN X5_.here hx rfl (hC e6_42.2.1) rfl (l' := ll4) rfl ?_
    refine XS.goto X5_.here hx rfl (pc0 := 44) (pc' := 53) rfl (hC e6_42.2.2.1) (by decide) (by decide) ?_
    refine XS.goto X5_.here hx rfl (pc0 := 53) (pc' := 10) rfl (hC e6_42.2.2.2) (by decide) (by decide) ?_
    refine XS.iloadN X5_.here hx rfl (hC e6_6.2.2.2) rfl ?_
    refine XS.iload X5_.here hx rfl (hC e6_11.1) rfl ?_
    refine XS.icmpYes X5_.here hx rfl (pc0 := 13) (pc' := 56) rfl (hC e6_11.2.1) rfl (tlt ((by decide) : (0 : Int32) < (1 : Int32))).2.2.1 (by decide) (by decide) ?_
    refine XS.iload X5_.here hx rfl (hC e6_11.2.2.1) rfl ?_
    exact kK
  exact own_rr X5_ hx hlk hre rfl (Or.inl ⟨rfl, Or.inl rfl, _, rfl⟩) (hC e6_11.2.2.2) e5_ (by decide) (by decide) ⟨rfl, N0, rfl⟩
theorem e6_47 : jD2 47 (.iload 5, 2) ∧ jD2 49 (.iconst 1, 1) ∧ jD2 50 (.isub, 1) ∧ jD2 51 (.istore 4, 2) := by decide +kernel
theorem own_ef_rm_pan (mM : MethodId) (x0 : Addr) (x1 : Int64) : entryFrame mM #[(.ref x0), (.long x1)] 6 = mkF mM 0 #[.val (.ref x0), .val (.long x1), .second, .unset, .unset, .unset] [] := by first | (simp [entryFrame, mkF, argsToLocals, Value.category]; done) | rfl
def Q_rm_pan (Z : State) (st : Addr) (pa : Addr) (pg : Addr) (kq : ClassId) (o : Int64) (ff : Int64) (h0 : Heap) (n0 : Nat) (vV : Option Value) (hH : Heap) (lA : List Loc) : Prop := vV = some (.int (-1 : Int32)) ∧ Fr n0 lA ∧ (hH = h0)
set_option maxRecDepth 65536 in
set_option maxHeartbeats 40000000 in
theorem rm_pan (lL : Launch) (Z : State) (a0 : Array Value) (hw : own_H a0 Z) (ws : List Jvm.Cond) (st : Addr) (pa : Addr) (pg : Addr) (kq : ClassId) (o : Int64) (ff : Int64) (h0 : Heap) (n0 : Nat) (Z0 : n0 ≤ h0.size) (Fc : jF0 Z h0 st (.int (1 : Int32))) (Fp : jF1 Z h0 st (.ref pa)) (Vp : Arv Z h0 pa kq (.object "com/example/portion/portion/server/OffsetSet$Page") (2 : Int32) [(.ref pg), .null] .null) (Ff : jF2 Z h0 pg (.long ff)) (c : o < ff) :
    own_Met lL jy2 (Jvm.Cond.code jy2 prog_38_method_18_code 6 (some .int) :: ws) jr0 #[(.ref st), (.long o)] Z h0 (Q_rm_pan Z st pa pg kq o ff h0 n0) := by
  refine own_begin (plainFor_of_name own_pn_com_example_portion_portion_server_OffsetSet) (fun mM => own_ef_rm_pan mM st o) fun pP eE sS mM below meth cC s₁ hx hby hml hZ hown hnm hre hlk X0 e0 => ?_
  have hC := @Jvm.hb _ _ hby
  have N0 := Fr.nil n0
  have K0 := Keep.refl h0 ([] : List Addr)
  let ll1 : Array Slot := #[vR st, vJ o, vS, vI 0, vU, vU]
  refine jg s₁ mM 3 ll1 [(.ref st)] (fun tT kK => ?_) ?_
  · refine XS.iconst X0.here hx rfl (hC e6_0.1) ?_
    refine XS.istoreN X0.here hx rfl (hC e6_0.2.1) rfl (l' := ll1) rfl ?_
    refine XS.aloadN X0.here hx rfl (hC e6_0.2.2.1) rfl rfl ?_
    exact kK
  refine jf X0 hx hZ hown (jk hw 37 rfl) e0 Fc (hC e6_0.2.2.2) fun T1_ X1_ e1_ => ?_
  let ll2 : Array Slot := #[vR st, vJ o, vS, vI 0, vI 0, vI 0]
  refine jg T1_ mM 25 ll2 [(.ref st)] (fun tT kK => ?_) ?_
  · refine XS.iconst X1_.here hx rfl (hC e6_6.1) ?_
    refine XS.isub X1_.here hx rfl (hC e6_6.2.1) rfl ?_
    let ll3 : Array Slot := #[vR st, vJ o, vS, vI 0, vI 0, vU]
    refine XS.istore X1_.here hx rfl (hC e6_6.2.2.1) rfl (l' := ll3) rfl ?_
    refine XS.iloadN X1_.here hx rfl (hC e6_6.2.2.2) rfl ?_
    refine XS.iload X1_.here hx rfl (hC e6_11.1) rfl ?_
    refine XS.icmpNo X1_.here hx rfl (hC e6_11.2.1) rfl (flt ((by decide) : ¬ ((0 : Int32) < (0 : Int32)))).2.2.1 ?_
    refine XS.iloadN X1_.here hx rfl (hC e6_16.1) rfl ?_
    refine XS.iload X1_.here hx rfl (hC e6_16.2.1) rfl ?_
    refine XS.iadd X1_.here hx rfl (hC e6_16.2.2.1) rfl ?_
    refine XS.iconst X1_.here hx rfl (hC e6_16.2.2.2) ?_
    refine XS.iushr X1_.here hx rfl (hC e6_21.1) rfl ?_
    refine XS.istore X1_.here hx rfl (hC e6_21.2.1) rfl (l' := ll2) rfl ?_
    refine XS.aloadN X1_.here hx rfl (hC e6_21.2.2.1) rfl rfl ?_
    exact kK
  refine jf X1_ hx hZ hown (jk hw 16 rfl) e1_ Fp (hC e6_21.2.2.2) fun T2_ X2_ e2_ => ?_
  refine jg T2_ mM 30 ll2 [(.int (0 : Int32)), (.ref pa)] (fun tT kK => ?_) ?_
  · refine XS.iload X2_.here hx rfl (hC e6_28.1) rfl ?_
    exact kK
  obtain ⟨cl3_, Ar3_, qk3_, Sz3_, Nn3_, Hh3_, Gg3_⟩ := id Vp
  have hin4_ : ¬ ((0 : Int32) < 0 ∨ cl3_.slots.size ≤ ((0 : Int32)).toNatClampNeg) := inb_of Sz3_ ⟨by decide, by decide⟩
  have hat4_ : cl3_.slots[((0 : Int32)).toNatClampNeg]? = some (.ref pg) := Hh3_.at hin4_ rfl
  refine jg T2_ mM 31 ll2 [(.ref pg)] (fun tT kK => ?_) ?_
  · refine X2_.aaload hx (j := (0 : Int32)) (v := (.ref pg)) (own_rw e2_ Ar3_.1) (State.isArrayOf_alike hZ.alike Ar3_.2.1) rfl Ar3_.2.2 hin4_ hat4_ (g := (mkF mM 30 ll2 [(.int (0 : Int32)), (.ref pa)])) rfl rfl (hC e6_28.2.1) _ ?_
    exact kK
  obtain ⟨T5_, X5_, e5_, st5_⟩ := own_getRef X2_ hx hZ hown (jk hw 94 rfl) Via.refl e2_ Ff (g := (mkF mM 31 ll2 [(.ref pg)])) rfl rfl (hC e6_28.2.2.1)
  refine own_fin st5_ ?_
  let ll4 : Array Slot := #[vR st, vJ o, vS, vI 0, vI (-1), vI 0]
  refine jg T5_ mM 58 ll4 [(.int (-1 : Int32))] (fun tT kK => ?_) ?_
  · refine XS.lloadN X5_.here hx rfl (hC e6_28.2.2.2) rfl ?_
    refine XS.lcmp X5_.here hx rfl (hC e6_35.1) rfl ?_
    refine XS.ifYes X5_.here hx rfl (pc0 := 36) (pc' := 47) rfl (hC e6_35.2.1) rfl ((if0 _ _).trans (tlt ((lw_gt ff o).mpr (c : o < ff))).2.2.1) (by decide) (by decide) ?_
    refine XS.iload X5_.here hx rfl (hC e6_47.1) rfl ?_
    refine XS.iconst X5_.here hx rfl (hC e6_47.2.1) ?_
    refine XS.isub X5_.here hx rfl (hC e6_47.2.2.1) rfl ?_
    refine XS.istore X5_.here hx rfl (hC e6_47.2.2.2) rfl (l' := ll4) rfl ?_
    refine XS.goto X5_.here hx rfl (pc0 := 53) (pc' := 10) rfl (hC e6_42.2.2.2) (by decide) (by decide) ?_
    refine XS.iloadN X5_.here hx rfl (hC e6_6.2.2.2) rfl ?_
    refine XS.iload X5_.here hx rfl (hC e6_11.1) rfl ?_
    refine XS.icmpYes X5_.here hx rfl (pc0 := 13) (pc' := 56) rfl (hC e6_11.2.1) rfl (tlt ((by decide) : (-1 : Int32) < (0 : Int32))).2.2.1 (by decide) (by decide) ?_
    refine XS.iload X5_.here hx rfl (hC e6_11.2.2.1) rfl ?_
    exact kK
  exact own_rr X5_ hx hlk hre rfl (Or.inl ⟨rfl, Or.inl rfl, _, rfl⟩) (hC e6_11.2.2.2) e5_ (by decide) (by decide) ⟨rfl, N0, rfl⟩
theorem e13_0 : jD3 0 (.aload_n 0, 1) ∧ jD3 1 (.getfield 18, 3) ∧ jD3 4 (.ifCond .ge 10, 3) ∧ jD3 7 (.aload_n 0, 1) := by decide +kernel
theorem e13_8 : jD3 8 (.getfield 29, 3) ∧ jD3 11 (.goto 7, 3) ∧ jD3 18 (.lreturn, 1) := by decide +kernel
theorem own_pn_com_example_portion_portion_server_OffsetSet_Page : plainName "com/example/portion/portion/server/OffsetSet$Page" = true := by first | (simp [plainName, overriddenIn]; done) | decide +kernel
theorem own_ef_rm_lta (mM : MethodId) (x0 : Addr) : entryFrame mM #[(.ref x0)] 1 = mkF mM 0 #[.val (.ref x0)] [] := by first | (simp [entryFrame, mkF, argsToLocals, Value.category]; done) | rfl
def Q_rm_lta (Z : State) (a : Addr) (x : Int64) (h0 : Heap) (n0 : Nat) (vV : Option Value) (hH : Heap) (lA : List Loc) : Prop := vV = some (.long x) ∧ Fr n0 lA ∧ (hH = h0)
set_option maxRecDepth 65536 in
set_option maxHeartbeats 40000000 in
theorem rm_lta (lL : Launch) (Z : State) (a0 : Array Value) (hw : own_H a0 Z) (ws : List Jvm.Cond) (a : Addr) (x : Int64) (h0 : Heap) (n0 : Nat) (Z0 : n0 ≤ h0.size) (Fa : jF3 Z h0 a (.int (-1 : Int32))) (Fx : jF4 Z h0 a (.long x)) :
    own_Met lL jy3 (Jvm.Cond.code jy3 prog_39_method_3_code 1 (some .long) :: ws) jr0 #[(.ref a)] Z h0 (Q_rm_lta Z a x h0 n0) := by
  refine own_begin (plainFor_of_name own_pn_com_example_portion_portion_server_OffsetSet_Page) (fun mM => own_ef_rm_lta mM a) fun pP eE sS mM below meth cC s₁ hx hby hml hZ hown hnm hre hlk X0 e0 => ?_
  have hC := @Jvm.hb _ _ hby
  have N0 := Fr.nil n0
  have K0 := Keep.refl h0 ([] : List Addr)
  refine jg s₁ mM 1 #[vR a] [(.ref a)] (fun tT kK => ?_) ?_
  · refine XS.aloadN X0.here hx rfl (hC e13_0.1) rfl rfl ?_
    exact kK
  refine jf X0 hx hZ hown (jk hw 64 rfl) e0 Fa (hC e13_0.2.1) fun T1_ X1_ e1_ => ?_
  refine jg T1_ mM 8 #[vR a] [(.ref a)] (fun tT kK => ?_) ?_
  · refine XS.ifNo X1_.here hx rfl (hC e13_0.2.2.1) rfl ((if0 _ _).trans (tlt ((by decide) : (-1 : Int32) < (0 : Int32))).2.1) ?_
    refine XS.aloadN X1_.here hx rfl (hC e13_0.2.2.2) rfl rfl ?_
    exact kK
  refine jf X1_ hx hZ hown (jk hw 88 rfl) e1_ Fx (hC e13_8.1) fun T2_ X2_ e2_ => ?_
  refine jg T2_ mM 18 #[vR a] [(.long x)] (fun tT kK => ?_) ?_
  · refine XS.goto X2_.here hx rfl (pc0 := 11) (pc' := 18) rfl (hC e13_8.2.1) (by decide) (by decide) ?_
    exact kK
  exact own_rr X2_ hx hlk hre rfl (Or.inr (Or.inl ⟨rfl, rfl, _, rfl⟩)) (hC e13_8.2.2) e2_ (by decide) (by decide) ⟨rfl, N0, rfl⟩
theorem e13_14 : jD3 14 (.aload_n 0, 1) ∧ jD3 15 (.getfield 32, 3) := by decide +kernel
theorem own_ef_rm_ltb (mM : MethodId) (x0 : Addr) : entryFrame mM #[(.ref x0)] 1 = mkF mM 0 #[.val (.ref x0)] [] := by first | (simp [entryFrame, mkF, argsToLocals, Value.category]; done) | rfl
def Q_rm_ltb (Z : State) (a : Addr) (x : Int64) (h0 : Heap) (n0 : Nat) (vV : Option Value) (hH : Heap) (lA : List Loc) : Prop := vV = some (.long x) ∧ Fr n0 lA ∧ (hH = h0)
set_option maxRecDepth 65536 in
set_option maxHeartbeats 40000000 in
theorem rm_ltb (lL : Launch) (Z : State) (a0 : Array Value) (hw : own_H a0 Z) (ws : List Jvm.Cond) (a : Addr) (x : Int64) (h0 : Heap) (n0 : Nat) (Z0 : n0 ≤ h0.size) (Fa : jF3 Z h0 a (.int (0 : Int32))) (Fx : jF5 Z h0 a (.long x)) :
    own_Met lL jy3 (Jvm.Cond.code jy3 prog_39_method_3_code 1 (some .long) :: ws) jr0 #[(.ref a)] Z h0 (Q_rm_ltb Z a x h0 n0) := by
  refine own_begin (plainFor_of_name own_pn_com_example_portion_portion_server_OffsetSet_Page) (fun mM => own_ef_rm_ltb mM a) fun pP eE sS mM below meth cC s₁ hx hby hml hZ hown hnm hre hlk X0 e0 => ?_
  have hC := @Jvm.hb _ _ hby
  have N0 := Fr.nil n0
  have K0 := Keep.refl h0 ([] : List Addr)
  refine jg s₁ mM 1 #[vR a] [(.ref a)] (fun tT kK => ?_) ?_
  · refine XS.aloadN X0.here hx rfl (hC e13_0.1) rfl rfl ?_
    exact kK
  refine jf X0 hx hZ hown (jk hw 64 rfl) e0 Fa (hC e13_0.2.1) fun T1_ X1_ e1_ => ?_
  refine jg T1_ mM 15 #[vR a] [(.ref a)] (fun tT kK => ?_) ?_
  · refine XS.ifYes X1_.here hx rfl (pc0 := 4) (pc' := 14) rfl (hC e13_0.2.2.1) rfl ((if0 _ _).trans (flt ((by decide) : ¬ ((0 : Int32) < (0 : Int32)))).2.1) (by decide) (by decide) ?_
    refine XS.aloadN X1_.here hx rfl (hC e13_14.1) rfl rfl ?_
    exact kK
  refine jf X1_ hx hZ hown (jk hw 127 rfl) e1_ Fx (hC e13_14.2) fun T2_ X2_ e2_ => ?_
  exact own_rr X2_ hx hlk hre rfl (Or.inr (Or.inl ⟨rfl, rfl, _, rfl⟩)) (hC e13_8.2.2) e2_ (by decide) (by decide) ⟨rfl, N0, rfl⟩
theorem e14_0 : jD4 0 (.aload_n 0, 1) ∧ jD4 1 (.getfield 18, 3) ∧ jD4 4 (.ifCond .ge 10, 3) ∧ jD4 7 (.aload_n 0, 1) := by decide +kernel
theorem e14_8 : jD4 8 (.getfield 22, 3) ∧ jD4 11 (.goto 7, 3) ∧ jD4 18 (.lreturn, 1) := by decide +kernel
theorem own_ef_rm_lfa (mM : MethodId) (x0 : Addr) : entryFrame mM #[(.ref x0)] 1 = mkF mM 0 #[.val (.ref x0)] [] := by first | (simp [entryFrame, mkF, argsToLocals, Value.category]; done) | rfl
def Q_rm_lfa (Z : State) (a : Addr) (x : Int64) (h0 : Heap) (n0 : Nat) (vV : Option Value) (hH : Heap) (lA : List Loc) : Prop := vV = some (.long x) ∧ Fr n0 lA ∧ (hH = h0)
set_option maxRecDepth 65536 in
set_option maxHeartbeats 40000000 in
theorem rm_lfa (lL : Launch) (Z : State) (a0 : Array Value) (hw : own_H a0 Z) (ws : List Jvm.Cond) (a : Addr) (x : Int64) (h0 : Heap) (n0 : Nat) (Z0 : n0 ≤ h0.size) (Fa : jF3 Z h0 a (.int (-1 : Int32))) (Fx : jF2 Z h0 a (.long x)) :
    own_Met lL jy4 (Jvm.Cond.code jy4 prog_39_method_2_code 1 (some .long) :: ws) jr0 #[(.ref a)] Z h0 (Q_rm_lfa Z a x h0 n0) := by
  refine own_begin (plainFor_of_name own_pn_com_example_portion_portion_server_OffsetSet_Page) (fun mM => own_ef_rm_lfa mM a) fun pP eE sS mM below meth cC s₁ hx hby hml hZ hown hnm hre hlk X0 e0 => ?_
  have hC := @Jvm.hb _ _ hby
  have N0 := Fr.nil n0
  have K0 := Keep.refl h0 ([] : List Addr)
  refine jg s₁ mM 1 #[vR a] [(.ref a)] (fun tT kK => ?_) ?_
  · refine XS.aloadN X0.here hx rfl (hC e14_0.1) rfl rfl ?_
    exact kK
  refine jf X0 hx hZ hown (jk hw 64 rfl) e0 Fa (hC e14_0.2.1) fun T1_ X1_ e1_ => ?_
  refine jg T1_ mM 8 #[vR a] [(.ref a)] (fun tT kK => ?_) ?_
  · refine XS.ifNo X1_.here hx rfl (hC e14_0.2.2.1) rfl ((if0 _ _).trans (tlt ((by decide) : (-1 : Int32) < (0 : Int32))).2.1) ?_
    refine XS.aloadN X1_.here hx rfl (hC e14_0.2.2.2) rfl rfl ?_
    exact kK
  refine jf X1_ hx hZ hown (jk hw 91 rfl) e1_ Fx (hC e14_8.1) fun T2_ X2_ e2_ => ?_
  refine jg T2_ mM 18 #[vR a] [(.long x)] (fun tT kK => ?_) ?_
  · refine XS.goto X2_.here hx rfl (pc0 := 11) (pc' := 18) rfl (hC e14_8.2.1) (by decide) (by decide) ?_
    exact kK
  exact own_rr X2_ hx hlk hre rfl (Or.inr (Or.inl ⟨rfl, rfl, _, rfl⟩)) (hC e14_8.2.2) e2_ (by decide) (by decide) ⟨rfl, N0, rfl⟩
theorem e14_14 : jD4 14 (.aload_n 0, 1) ∧ jD4 15 (.getfield 26, 3) := by decide +kernel
theorem own_ef_rm_lfb (mM : MethodId) (x0 : Addr) : entryFrame mM #[(.ref x0)] 1 = mkF mM 0 #[.val (.ref x0)] [] := by first | (simp [entryFrame, mkF, argsToLocals, Value.category]; done) | rfl
def Q_rm_lfb (Z : State) (a : Addr) (x : Int64) (h0 : Heap) (n0 : Nat) (vV : Option Value) (hH : Heap) (lA : List Loc) : Prop := vV = some (.long x) ∧ Fr n0 lA ∧ (hH = h0)
set_option maxRecDepth 65536 in
set_option maxHeartbeats 40000000 in
theorem rm_lfb (lL : Launch) (Z : State) (a0 : Array Value) (hw : own_H a0 Z) (ws : List Jvm.Cond) (a : Addr) (x : Int64) (h0 : Heap) (n0 : Nat) (Z0 : n0 ≤ h0.size) (Fa : jF3 Z h0 a (.int (0 : Int32))) (Fx : jF6 Z h0 a (.long x)) :
    own_Met lL jy4 (Jvm.Cond.code jy4 prog_39_method_2_code 1 (some .long) :: ws) jr0 #[(.ref a)] Z h0 (Q_rm_lfb Z a x h0 n0) := by
  refine own_begin (plainFor_of_name own_pn_com_example_portion_portion_server_OffsetSet_Page) (fun mM => own_ef_rm_lfb mM a) fun pP eE sS mM below meth cC s₁ hx hby hml hZ hown hnm hre hlk X0 e0 => ?_
  have hC := @Jvm.hb _ _ hby
  have N0 := Fr.nil n0
  have K0 := Keep.refl h0 ([] : List Addr)
  refine jg s₁ mM 1 #[vR a] [(.ref a)] (fun tT kK => ?_) ?_
  · refine XS.aloadN X0.here hx rfl (hC e14_0.1) rfl rfl ?_
    exact kK
  refine jf X0 hx hZ hown (jk hw 64 rfl) e0 Fa (hC e14_0.2.1) fun T1_ X1_ e1_ => ?_
  refine jg T1_ mM 15 #[vR a] [(.ref a)] (fun tT kK => ?_) ?_
  · refine XS.ifYes X1_.here hx rfl (pc0 := 4) (pc' := 14) rfl (hC e14_0.2.2.1) rfl ((if0 _ _).trans (flt ((by decide) : ¬ ((0 : Int32) < (0 : Int32)))).2.1) (by decide) (by decide) ?_
    refine XS.aloadN X1_.here hx rfl (hC e14_14.1) rfl rfl ?_
    exact kK
  refine jf X1_ hx hZ hown (jk hw 125 rfl) e1_ Fx (hC e14_14.2) fun T2_ X2_ e2_ => ?_
  exact own_rr X2_ hx hlk hre rfl (Or.inr (Or.inl ⟨rfl, rfl, _, rfl⟩)) (hC e14_8.2.2) e2_ (by decide) (by decide) ⟨rfl, N0, rfl⟩
theorem e15_0 : jD5 0 (.aload_n 0, 1) ∧ jD5 1 (.getfield 35, 3) ∧ jD5 4 (.aload_n 0, 1) ∧ jD5 5 (.getfield 38, 3) := by decide +kernel
theorem e15_8 : jD5 8 (.isub, 1) ∧ jD5 9 (.ireturn, 1) := by decide +kernel
theorem own_ef_rm_bc (mM : MethodId) (x0 : Addr) : entryFrame mM #[(.ref x0)] 1 = mkF mM 0 #[.val (.ref x0)] [] := by first | (simp [entryFrame, mkF, argsToLocals, Value.category]; done) | rfl
def Q_rm_bc (Z : State) (a : Addr) (en : Int32) (h0 : Heap) (n0 : Nat) (vV : Option Value) (hH : Heap) (lA : List Loc) : Prop := vV = some (.int (en - (0 : Int32))) ∧ Fr n0 lA ∧ (hH = h0)
set_option maxRecDepth 65536 in
set_option maxHeartbeats 40000000 in
theorem rm_bc (lL : Launch) (Z : State) (a0 : Array Value) (hw : own_H a0 Z) (ws : List Jvm.Cond) (a : Addr) (en : Int32) (h0 : Heap) (n0 : Nat) (Z0 : n0 ≤ h0.size) (Fe : jF7 Z h0 a (.int en)) (Fs : jF8 Z h0 a (.int (0 : Int32))) :
    own_Met lL jy5 (Jvm.Cond.code jy5 prog_39_method_4_code 1 (some .int) :: ws) jr0 #[(.ref a)] Z h0 (Q_rm_bc Z a en h0 n0) := by
  refine own_begin (plainFor_of_name own_pn_com_example_portion_portion_server_OffsetSet_Page) (fun mM => own_ef_rm_bc mM a) fun pP eE sS mM below meth cC s₁ hx hby hml hZ hown hnm hre hlk X0 e0 => ?_
  have hC := @Jvm.hb _ _ hby
  have N0 := Fr.nil n0
  have K0 := Keep.refl h0 ([] : List Addr)
  refine jg s₁ mM 1 #[vR a] [(.ref a)] (fun tT kK => ?_) ?_
  · refine XS.aloadN X0.here hx rfl (hC e15_0.1) rfl rfl ?_
    exact kK
  refine jf X0 hx hZ hown (jk hw 105 rfl) e0 Fe (hC e15_0.2.1) fun T1_ X1_ e1_ => ?_
  refine jg T1_ mM 5 #[vR a] [(.ref a), (.int en)] (fun tT kK => ?_) ?_
  · refine XS.aloadN X1_.here hx rfl (hC e15_0.2.2.1) rfl rfl ?_
    exact kK
  refine jf X1_ hx hZ hown (jk hw 107 rfl) e1_ Fs (hC e15_0.2.2.2) fun T2_ X2_ e2_ => ?_
  refine jg T2_ mM 9 #[vR a] [(.int (en - (0 : Int32)))] (fun tT kK => ?_) ?_
  · refine XS.isub X2_.here hx rfl (hC e15_8.1) rfl ?_
    exact kK
  exact own_rr X2_ hx hlk hre rfl (Or.inl ⟨rfl, Or.inl rfl, _, rfl⟩) (hC e15_8.2) e2_ (by decide) (by decide) ⟨rfl, N0, rfl⟩
theorem e1_0 : jD6 0 (.aload_n 0, 1) ∧ jD6 1 (.invokespecial 7, 3) ∧ jD6 4 (.aload_n 0, 1) ∧ jD6 5 (.getstatic 12, 3) := by decide +kernel
theorem d1_8 : jD6 8 (.putfield 16, 3) := by decide +kernel
theorem js0 {Z : State} {a0 : Array Value} (hw : own_H a0 Z) : jQ0 Z ≠ jQ1 Z := slot_ne (Or.inl (jk hw 44 rfl)) (Or.inl (jk hw 17 rfl)) (by decide) (t := .long) (t' := (.array (.object "com/example/portion/portion/server/OffsetSet$Page"))) (by decide) (by decide)
theorem js1 {Z : State} {a0 : Array Value} (hw : own_H a0 Z) : jQ2 Z ≠ jQ1 Z := slot_ne (Or.inl (jk hw 38 rfl)) (Or.inl (jk hw 17 rfl)) (by decide) (t := .int) (t' := (.array (.object "com/example/portion/portion/server/OffsetSet$Page"))) (by decide) (by decide)
theorem js2 {Z : State} {a0 : Array Value} (hw : own_H a0 Z) : jQ3 Z ≠ jQ1 Z := slot_ne (Or.inr (jk hw 19 rfl)) (Or.inl (jk hw 17 rfl)) (by decide) (t := .int) (t' := (.array (.object "com/example/portion/portion/server/OffsetSet$Page"))) (by decide) (by decide)
theorem e1_11 : jD6 11 (.aload_n 0, 1) ∧ jD6 12 (.iload_n 1, 1) ∧ jD6 13 (.putfield 19, 3) := by decide +kernel
theorem js3 {Z : State} {a0 : Array Value} (hw : own_H a0 Z) : jQ0 Z ≠ jQ3 Z := slot_ne (Or.inl (jk hw 44 rfl)) (Or.inr (jk hw 19 rfl)) (by decide) (t := .long) (t' := .int) (by decide) (by decide)
theorem js4 {Z : State} {a0 : Array Value} (hw : own_H a0 Z) : jQ2 Z ≠ jQ3 Z := slot_ne (Or.inl (jk hw 38 rfl)) (Or.inr (jk hw 19 rfl)) (by decide) (t := .int) (t' := .int) (by decide) (by decide)
theorem d1_16 : jD6 16 (.return_, 1) := by decide +kernel
theorem own_ef_rm_os (mM : MethodId) (x0 : Addr) (x1 : Int32) : entryFrame mM #[(.ref x0), (.int x1)] 2 = mkF mM 0 #[.val (.ref x0), .val (.int x1)] [] := by first | (simp [entryFrame, mkF, argsToLocals, Value.category]; done) | rfl
def Q_rm_os (Z : State) (st : Addr) (np : Addr) (pb : Int32) (h0 : Heap) (n0 : Nat) (vV : Option Value) (hH : Heap) (lA : List Loc) : Prop := vV = none ∧ Fr n0 lA ∧ (Keep h0 hH [st]) ∧ (jE0 Z hH st) ∧ (jF9 Z hH st (.long (0 : Int64))) ∧ (jF1 Z hH st (.ref np)) ∧ (jF0 Z hH st (.int (0 : Int32))) ∧ (jF10 Z hH st (.int pb))
set_option maxRecDepth 65536 in
set_option maxHeartbeats 40000000 in
theorem rm_os (lL : Launch) (Z : State) (a0 : Array Value) (hw : own_H a0 Z) (ws : List Jvm.Cond) (st : Addr) (np : Addr) (pb : Int32) (h0 : Heap) (n0 : Nat) (Z0 : n0 ≤ h0.size) (F0 : jE0 Z h0 st) (F1 : jF9 Z h0 st (.long (0 : Int64))) (F2 : jF1 Z h0 st .null) (F3 : jF0 Z h0 st (.int (0 : Int32))) (F4 : jF10 Z h0 st (.int (0 : Int32))) (Zp : Sta Z Z.heap "com/example/portion/portion/server/OffsetSet" "NO_PAGES" "[Lcom/example/portion/portion/server/OffsetSet$Page;" (.ref np)) (O0 : Old Z n0 h0) (g_st : n0 ≤ st) :
    own_Met lL jy6 (Jvm.Cond.code jy6 prog_38_method_2_code 2 none :: ws) jr1 #[(.ref st), (.int pb)] Z h0 (Q_rm_os Z st np pb h0 n0) := by
  refine own_begin (plainFor_of_name own_pn_com_example_portion_portion_server_OffsetSet) (fun mM => own_ef_rm_os mM st pb) fun pP eE sS mM below meth cC s₁ hx hby hml hZ hown hnm hre hlk X0 e0 => ?_
  have hC := @Jvm.hb _ _ hby
  have N0 := Fr.nil n0
  have K0 := Keep.refl h0 [st]
  refine jg s₁ mM 1 #[vR st, vI pb] [(.ref st)] (fun tT kK => ?_) ?_
  · refine XS.aloadN X0.here hx rfl (hC e1_0.1) rfl rfl ?_
    exact kK
  obtain ⟨T1_, X1_, e1_, st1_⟩ := initO X0 hx hZ hown (jk hw 11 rfl) (jk hw 12 rfl) (jk hw 13 rfl) e0 (g := (mkF mM 1 #[vR st, vI pb] [(.ref st)])) rfl (by rw [hml]; rfl) rfl (hC e1_0.2.1) (by decide) (W := 0) (by show 2 * 0 + _ ≤ _; exact Nat.le_of_eq rfl) (by decide)
  refine own_fin st1_ ?_
  refine jg T1_ mM 5 #[vR st, vI pb] [(.ref st)] (fun tT kK => ?_) ?_
  · refine XS.aloadN X1_.here hx rfl (hC e1_0.2.2.1) rfl rfl ?_
    exact kK
  obtain ⟨T2_, X2_, e2_, st2_⟩ := getS2 X1_ hx hZ hown (host := "") (Or.inl (jk hw 14 rfl)) Via.refl e1_ (own_StaKeep O0 Zp) (g := (mkF mM 5 #[vR st, vI pb] [(.ref st)])) rfl (hC e1_0.2.2.2)
  refine own_fin st2_ ?_
  refine jq X2_ hx hZ hown (jk hw 16 rfl) e2_ F2 F0 (jk hw 17 rfl) (jk hw 6 rfl) (ty := (.array (.object "com/example/portion/portion/server/OffsetSet$Page"))) (by decide) rfl rfl (hC d1_8) K0 N0 (Or.inl (List.mem_of_getElem? (i := 0) rfl)) g_st fun T3_ h3_ X3_ e3_ W3_ Fw3_ K3_ N3_ => ?_
  have fc4_ := F0.wr W3_
  have fc5_ := F1.other W3_ (Or.inr (js0 hw))
  have fc6_ := F3.other W3_ (Or.inr (js1 hw))
  have fc7_ := F4.other W3_ (Or.inr (js2 hw))
  refine jg T3_ mM 13 #[vR st, vI pb] [(.int pb), (.ref st)] (fun tT kK => ?_) ?_
  · refine XS.aloadN X3_.here hx rfl (hC e1_11.1) rfl rfl ?_
    refine XS.iloadN X3_.here hx rfl (hC e1_11.2.1) rfl ?_
    exact kK
  obtain ⟨T9_, h9_, X9_, e9_, W9_, st9_⟩ := putF X3_ hx hZ hown (host := "") (Or.inl (jk hw 18 rfl)) Via.refl e3_ fc7_ fc4_ (Or.inr ⟨(jk hw 19 rfl), rfl, hnm⟩) (jk hw 6 rfl) (ty := .int) (by decide) rfl rfl (g := (mkF mM 13 #[vR st, vI pb] [(.int pb), (.ref st)])) rfl rfl (hC e1_11.2.2)
  have Fw9_ := fc7_.same W9_
  have fc10_ := fc4_.wr W9_
  have fc11_ := fc5_.other W9_ (Or.inr (js3 hw))
  have fc12_ := Fw3_.other W9_ (Or.inr (js2 hw).symm)
  have fc13_ := fc6_.other W9_ (Or.inr (js4 hw))
  have K9_ := K3_.wr W9_ (Or.inl (List.mem_of_getElem? (i := 0) rfl))
  have N9_ := Fr.snoc X9_ N3_ g_st
  refine own_fin st9_ ?_
  exact own_rV X9_ hx hlk hre (hC d1_16) e9_ (by decide) (by decide) ⟨rfl, N9_, K9_, fc10_, fc11_, fc12_, fc13_, Fw9_⟩
theorem e10_0 : jD7 0 (.aload_n 0, 1) ∧ jD7 1 (.invokespecial 3, 3) ∧ jD7 4 (.aload_n 0, 1) ∧ jD7 5 (.getstatic 9, 3) := by decide +kernel
theorem d10_8 : jD7 8 (.putfield 13, 3) := by decide +kernel
theorem js5 {Z : State} {a0 : Array Value} (hw : own_H a0 Z) : jQ4 Z ≠ jQ5 Z := slot_ne (Or.inl (jk hw 77 rfl)) (Or.inl (jk hw 63 rfl)) (by decide) (t := .long) (t' := (.array .byte)) (by decide) (by decide)
theorem js6 {Z : State} {a0 : Array Value} (hw : own_H a0 Z) : jQ6 Z ≠ jQ5 Z := slot_ne (Or.inl (jk hw 92 rfl)) (Or.inl (jk hw 63 rfl)) (by decide) (t := .long) (t' := (.array .byte)) (by decide) (by decide)
theorem js7 {Z : State} {a0 : Array Value} (hw : own_H a0 Z) : jQ7 Z ≠ jQ5 Z := slot_ne (Or.inl (jk hw 89 rfl)) (Or.inl (jk hw 63 rfl)) (by decide) (t := .long) (t' := (.array .byte)) (by decide) (by decide)
theorem js8 {Z : State} {a0 : Array Value} (hw : own_H a0 Z) : jQ8 Z ≠ jQ5 Z := slot_ne (Or.inl (jk hw 108 rfl)) (Or.inl (jk hw 63 rfl)) (by decide) (t := .int) (t' := (.array .byte)) (by decide) (by decide)
theorem js9 {Z : State} {a0 : Array Value} (hw : own_H a0 Z) : jQ9 Z ≠ jQ5 Z := slot_ne (Or.inl (jk hw 106 rfl)) (Or.inl (jk hw 63 rfl)) (by decide) (t := .int) (t' := (.array .byte)) (by decide) (by decide)
theorem js10 {Z : State} {a0 : Array Value} (hw : own_H a0 Z) : jQ10 Z ≠ jQ5 Z := slot_ne (Or.inl (jk hw 65 rfl)) (Or.inl (jk hw 63 rfl)) (by decide) (t := .int) (t' := (.array .byte)) (by decide) (by decide)
theorem js11 {Z : State} {a0 : Array Value} (hw : own_H a0 Z) : jQ11 Z ≠ jQ5 Z := slot_ne (Or.inl (jk hw 124 rfl)) (Or.inl (jk hw 63 rfl)) (by decide) (t := .long) (t' := (.array .byte)) (by decide) (by decide)
theorem js12 {Z : State} {a0 : Array Value} (hw : own_H a0 Z) : jQ12 Z ≠ jQ5 Z := slot_ne (Or.inl (jk hw 126 rfl)) (Or.inl (jk hw 63 rfl)) (by decide) (t := .long) (t' := (.array .byte)) (by decide) (by decide)
theorem js13 {Z : State} {a0 : Array Value} (hw : own_H a0 Z) : jQ13 Z ≠ jQ5 Z := slot_ne (Or.inl (jk hw 128 rfl)) (Or.inl (jk hw 63 rfl)) (by decide) (t := .long) (t' := (.array .byte)) (by decide) (by decide)
theorem e10_11 : jD7 11 (.aload_n 0, 1) ∧ jD7 12 (.iconst (-1), 1) ∧ jD7 13 (.putfield 18, 3) := by decide +kernel
theorem js14 {Z : State} {a0 : Array Value} (hw : own_H a0 Z) : jQ4 Z ≠ jQ10 Z := slot_ne (Or.inl (jk hw 77 rfl)) (Or.inl (jk hw 65 rfl)) (by decide) (t := .long) (t' := .int) (by decide) (by decide)
theorem js15 {Z : State} {a0 : Array Value} (hw : own_H a0 Z) : jQ6 Z ≠ jQ10 Z := slot_ne (Or.inl (jk hw 92 rfl)) (Or.inl (jk hw 65 rfl)) (by decide) (t := .long) (t' := .int) (by decide) (by decide)
theorem js16 {Z : State} {a0 : Array Value} (hw : own_H a0 Z) : jQ7 Z ≠ jQ10 Z := slot_ne (Or.inl (jk hw 89 rfl)) (Or.inl (jk hw 65 rfl)) (by decide) (t := .long) (t' := .int) (by decide) (by decide)
theorem js17 {Z : State} {a0 : Array Value} (hw : own_H a0 Z) : jQ8 Z ≠ jQ10 Z := slot_ne (Or.inl (jk hw 108 rfl)) (Or.inl (jk hw 65 rfl)) (by decide) (t := .int) (t' := .int) (by decide) (by decide)
theorem js18 {Z : State} {a0 : Array Value} (hw : own_H a0 Z) : jQ9 Z ≠ jQ10 Z := slot_ne (Or.inl (jk hw 106 rfl)) (Or.inl (jk hw 65 rfl)) (by decide) (t := .int) (t' := .int) (by decide) (by decide)
theorem js19 {Z : State} {a0 : Array Value} (hw : own_H a0 Z) : jQ11 Z ≠ jQ10 Z := slot_ne (Or.inl (jk hw 124 rfl)) (Or.inl (jk hw 65 rfl)) (by decide) (t := .long) (t' := .int) (by decide) (by decide)
theorem js20 {Z : State} {a0 : Array Value} (hw : own_H a0 Z) : jQ12 Z ≠ jQ10 Z := slot_ne (Or.inl (jk hw 126 rfl)) (Or.inl (jk hw 65 rfl)) (by decide) (t := .long) (t' := .int) (by decide) (by decide)
theorem js21 {Z : State} {a0 : Array Value} (hw : own_H a0 Z) : jQ13 Z ≠ jQ10 Z := slot_ne (Or.inl (jk hw 128 rfl)) (Or.inl (jk hw 65 rfl)) (by decide) (t := .long) (t' := .int) (by decide) (by decide)
theorem d10_16 : jD7 16 (.return_, 1) := by decide +kernel
theorem own_ef_rm_pg (mM : MethodId) (x0 : Addr) : entryFrame mM #[(.ref x0)] 1 = mkF mM 0 #[.val (.ref x0)] [] := by first | (simp [entryFrame, mkF, argsToLocals, Value.category]; done) | rfl
def Q_rm_pg (Z : State) (a : Addr) (nb : Addr) (h0 : Heap) (n0 : Nat) (vV : Option Value) (hH : Heap) (lA : List Loc) : Prop := vV = none ∧ Fr n0 lA ∧ (Keep h0 hH [a]) ∧ (jE1 Z hH a) ∧ (jF11 Z hH a (.long (0 : Int64))) ∧ (jF2 Z hH a (.long (0 : Int64))) ∧ (jF4 Z hH a (.long (0 : Int64))) ∧ (jF12 Z hH a (.ref nb)) ∧ (jF8 Z hH a (.int (0 : Int32))) ∧ (jF7 Z hH a (.int (0 : Int32))) ∧ (jF3 Z hH a (.int (-1 : Int32))) ∧ (jF13 Z hH a (.long (0 : Int64))) ∧ (jF6 Z hH a (.long (0 : Int64))) ∧ (jF5 Z hH a (.long (0 : Int64)))
set_option maxRecDepth 65536 in
set_option maxHeartbeats 40000000 in
theorem rm_pg (lL : Launch) (Z : State) (a0 : Array Value) (hw : own_H a0 Z) (ws : List Jvm.Cond) (a : Addr) (nb : Addr) (h0 : Heap) (n0 : Nat) (Z0 : n0 ≤ h0.size) (F0 : jE1 Z h0 a) (F1 : jF11 Z h0 a (.long (0 : Int64))) (F2 : jF2 Z h0 a (.long (0 : Int64))) (F3 : jF4 Z h0 a (.long (0 : Int64))) (F4 : jF12 Z h0 a .null) (F5 : jF8 Z h0 a (.int (0 : Int32))) (F6 : jF7 Z h0 a (.int (0 : Int32))) (F7 : jF3 Z h0 a (.int (0 : Int32))) (F8 : jF13 Z h0 a (.long (0 : Int64))) (F9 : jF6 Z h0 a (.long (0 : Int64))) (F10 : jF5 Z h0 a (.long (0 : Int64))) (Zb : Sta Z Z.heap "com/example/portion/portion/server/OffsetSet" "NO_BYTES" "[B" (.ref nb)) (O0 : Old Z n0 h0) (g_a : n0 ≤ a) :
    own_Met lL jy7 (Jvm.Cond.code jy7 prog_39_method_1_code 1 none :: ws) jr1 #[(.ref a)] Z h0 (Q_rm_pg Z a nb h0 n0) := by
  refine own_begin (plainFor_of_name own_pn_com_example_portion_portion_server_OffsetSet_Page) (fun mM => own_ef_rm_pg mM a) fun pP eE sS mM below meth cC s₁ hx hby hml hZ hown hnm hre hlk X0 e0 => ?_
  have hC := @Jvm.hb _ _ hby
  have N0 := Fr.nil n0
  have K0 := Keep.refl h0 [a]
  refine jg s₁ mM 1 #[vR a] [(.ref a)] (fun tT kK => ?_) ?_
  · refine XS.aloadN X0.here hx rfl (hC e10_0.1) rfl rfl ?_
    exact kK
  obtain ⟨T1_, X1_, e1_, st1_⟩ := initO X0 hx hZ hown (jk hw 59 rfl) (jk hw 12 rfl) (jk hw 13 rfl) e0 (g := (mkF mM 1 #[vR a] [(.ref a)])) rfl (by rw [hml]; rfl) rfl (hC e10_0.2.1) (by decide) (W := 0) (by show 2 * 0 + _ ≤ _; exact Nat.le_of_eq rfl) (by decide)
  refine own_fin st1_ ?_
  refine jg T1_ mM 5 #[vR a] [(.ref a)] (fun tT kK => ?_) ?_
  · refine XS.aloadN X1_.here hx rfl (hC e10_0.2.2.1) rfl rfl ?_
    exact kK
  obtain ⟨T2_, X2_, e2_, st2_⟩ := getS2 X1_ hx hZ hown (Or.inr (jk hw 60 rfl)) Via.refl e1_ (own_StaKeep O0 Zb) (g := (mkF mM 5 #[vR a] [(.ref a)])) rfl (hC e10_0.2.2.2)
  refine own_fin st2_ ?_
  refine jq X2_ hx hZ hown (jk hw 62 rfl) e2_ F4 F0 (jk hw 63 rfl) (jk hw 54 rfl) (ty := (.array .byte)) (by decide) rfl rfl (hC d10_8) K0 N0 (Or.inl (List.mem_of_getElem? (i := 0) rfl)) g_a fun T3_ h3_ X3_ e3_ W3_ Fw3_ K3_ N3_ => ?_
  have fc4_ := F0.wr W3_
  have fc5_ := F1.other W3_ (Or.inr (js5 hw))
  have fc6_ := F2.other W3_ (Or.inr (js6 hw))
  have fc7_ := F3.other W3_ (Or.inr (js7 hw))
  have fc8_ := F5.other W3_ (Or.inr (js8 hw))
  have fc9_ := F6.other W3_ (Or.inr (js9 hw))
  have fc10_ := F7.other W3_ (Or.inr (js10 hw))
  have fc11_ := F8.other W3_ (Or.inr (js11 hw))
  have fc12_ := F9.other W3_ (Or.inr (js12 hw))
  have fc13_ := F10.other W3_ (Or.inr (js13 hw))
  refine jg T3_ mM 13 #[vR a] [(.int (-1 : Int32)), (.ref a)] (fun tT kK => ?_) ?_
  · refine XS.aloadN X3_.here hx rfl (hC e10_11.1) rfl rfl ?_
    refine XS.iconst X3_.here hx rfl (hC e10_11.2.1) ?_
    exact kK
  refine jq X3_ hx hZ hown (jk hw 64 rfl) e3_ fc10_ fc4_ (jk hw 65 rfl) (jk hw 54 rfl) (ty := .int) (by decide) rfl rfl (hC e10_11.2.2) K3_ N3_ (Or.inl (List.mem_of_getElem? (i := 0) rfl)) g_a fun T15_ h15_ X15_ e15_ W15_ Fw15_ K15_ N15_ => ?_
  have fc16_ := fc4_.wr W15_
  have fc17_ := fc5_.other W15_ (Or.inr (js14 hw))
  have fc18_ := fc6_.other W15_ (Or.inr (js15 hw))
  have fc19_ := fc7_.other W15_ (Or.inr (js16 hw))
  have fc20_ := Fw3_.other W15_ (Or.inr (js10 hw).symm)
  have fc21_ := fc8_.other W15_ (Or.inr (js17 hw))
  have fc22_ := fc9_.other W15_ (Or.inr (js18 hw))
  have fc23_ := fc11_.other W15_ (Or.inr (js19 hw))
  have fc24_ := fc12_.other W15_ (Or.inr (js20 hw))
  have fc25_ := fc13_.other W15_ (Or.inr (js21 hw))
  exact own_rV X15_ hx hlk hre (hC d10_16) e15_ (by decide) (by decide) ⟨rfl, N15_, K15_, fc16_, fc17_, fc18_, fc19_, fc20_, fc21_, fc22_, Fw15_, fc23_, fc24_, fc25_⟩
theorem e11_0 : jD8 0 (.aload_n 0, 1) ∧ jD8 1 (.getfield 109, 3) ∧ jD8 4 (.iload_n 2, 1) ∧ jD8 5 (.iload_n 1, 1) := by decide +kernel
theorem e11_6 : jD8 6 (.isub, 1) ∧ jD8 7 (.isub, 1) ∧ jD8 8 (.iload 4, 2) ∧ jD8 10 (.iadd, 1) := by decide +kernel
theorem e11_11 : jD8 11 (.istore 5, 2) ∧ jD8 13 (.aload_n 0, 1) ∧ jD8 14 (.getfield 16, 3) ∧ jD8 17 (.astore 6, 2) := by decide +kernel
theorem e11_19 : jD8 19 (.iload 5, 2) ∧ jD8 21 (.aload_n 0, 1) ∧ jD8 22 (.getfield 16, 3) ∧ jD8 25 (.arraylength, 1) := by decide +kernel
theorem e11_26 : jD8 26 (.if_icmp .gt 15, 3) ∧ jD8 41 (.iload 5, 2) ∧ jD8 43 (.ifCond .ne 9, 3) ∧ jD8 52 (.iload 5, 2) := by decide +kernel
theorem e11_54 : jD8 54 (.iload 5, 2) ∧ jD8 56 (.iconst 2, 1) ∧ jD8 57 (.idiv, 1) ∧ jD8 58 (.iadd, 1) := by decide +kernel
theorem e11_59 : jD8 59 (.iconst 1, 1) ∧ jD8 60 (.iadd, 1) ∧ jD8 61 (.anewarray 35, 3) ∧ jD8 64 (.astore 6, 2) := by decide +kernel
theorem e11_66 : jD8 66 (.aload_n 0, 1) ∧ jD8 67 (.getfield 16, 3) ∧ jD8 70 (.iconst 0, 1) ∧ jD8 71 (.aload 6, 2) := by decide +kernel
theorem e11_73 : jD8 73 (.iconst 0, 1) ∧ jD8 74 (.iload_n 1, 1) ∧ jD8 75 (.invokestatic 167, 3) ∧ jD8 78 (.aload_n 0, 1) := by decide +kernel
theorem e11_79 : jD8 79 (.getfield 16, 3) ∧ jD8 82 (.iload_n 2, 1) ∧ jD8 83 (.aload 6, 2) ∧ jD8 85 (.iload_n 1, 1) := by decide +kernel
theorem e11_86 : jD8 86 (.iload 4, 2) ∧ jD8 88 (.iadd, 1) ∧ jD8 89 (.aload_n 0, 1) ∧ jD8 90 (.getfield 109, 3) := by decide +kernel
theorem e11_93 : jD8 93 (.iload_n 2, 1) ∧ jD8 94 (.isub, 1) ∧ jD8 95 (.invokestatic 167, 3) ∧ jD8 98 (.aload_n 3, 1) := by decide +kernel
theorem e11_99 : jD8 99 (.iconst 0, 1) ∧ jD8 100 (.aload 6, 2) ∧ jD8 102 (.iload_n 1, 1) ∧ jD8 103 (.iload 4, 2) := by decide +kernel
theorem e11_105 : jD8 105 (.invokestatic 167, 3) ∧ jD8 108 (.aload 6, 2) ∧ jD8 110 (.aload_n 0, 1) ∧ jD8 111 (.getfield 16, 3) := by decide +kernel
theorem e11_114 : jD8 114 (.if_acmp .ne 26, 3) ∧ jD8 140 (.aload_n 0, 1) ∧ jD8 141 (.aload 6, 2) ∧ jD8 143 (.putfield 16, 3) := by decide +kernel
theorem e11_146 : jD8 146 (.aload_n 0, 1) ∧ jD8 147 (.iload 5, 2) ∧ jD8 149 (.putfield 109, 3) := by decide +kernel
theorem js22 {Z : State} {a0 : Array Value} (hw : own_H a0 Z) : jQ0 Z ≠ jQ2 Z := slot_ne (Or.inl (jk hw 44 rfl)) (Or.inl (jk hw 38 rfl)) (by decide) (t := .long) (t' := .int) (by decide) (by decide)
theorem d11_152 : jD8 152 (.return_, 1) := by decide +kernel
theorem own_ef_rm_rpa (mM : MethodId) (x0 : Addr) (x1 : Int32) (x2 : Int32) (x3 : Addr) (x4 : Int32) : entryFrame mM #[(.ref x0), (.int x1), (.int x2), (.ref x3), (.int x4)] 7 = mkF mM 0 #[.val (.ref x0), .val (.int x1), .val (.int x2), .val (.ref x3), .val (.int x4), .unset, .unset] [] := by first | (simp [entryFrame, mkF, argsToLocals, Value.category]; done) | rfl
def Q_rm_rpa (Z : State) (st : Addr) (w : Addr) (pg : Addr) (np : Addr) (kp : ClassId) (kw : ClassId) (sz : Int64) (pb : Int32) (h0 : Heap) (n0 : Nat) (vV : Option Value) (hH : Heap) (lA : List Loc) : Prop := ∃ pa : Addr, ∃ kq : ClassId, vV = none ∧ Fr n0 lA ∧ (Keep h0 hH [st]) ∧ (h0.size ≤ pa) ∧ (Ovr Z kq "com/example/portion/portion/server/OffsetSet$Page") ∧ (jE0 Z hH st) ∧ (jF9 Z hH st (.long sz)) ∧ (jF1 Z hH st (.ref pa)) ∧ (jF0 Z hH st (.int (1 : Int32))) ∧ (jF10 Z hH st (.int pb)) ∧ (Arv Z hH pa kq (.object "com/example/portion/portion/server/OffsetSet$Page") (2 : Int32) [(.ref pg), .null] .null)
set_option maxRecDepth 65536 in
set_option maxHeartbeats 40000000 in
theorem rm_rpa (lL : Launch) (Z : State) (a0 : Array Value) (hw : own_H a0 Z) (ws : List Jvm.Cond) (st : Addr) (w : Addr) (pg : Addr) (np : Addr) (kp : ClassId) (kw : ClassId) (sz : Int64) (pb : Int32) (h0 : Heap) (n0 : Nat) (Z0 : n0 ≤ h0.size) (F0 : jE0 Z h0 st) (F1 : jF9 Z h0 st (.long sz)) (F2 : jF1 Z h0 st (.ref np)) (F3 : jF0 Z h0 st (.int (0 : Int32))) (F4 : jF10 Z h0 st (.int pb)) (Vn : Arv Z h0 np kp (.object "com/example/portion/portion/server/OffsetSet$Page") (0 : Int32) [] .null) (Vw : Arv Z h0 w kw (.object "com/example/portion/portion/server/OffsetSet$Page") (1 : Int32) [(.ref pg)] .null) (Eg : jE1 Z h0 pg) (g_st : n0 ≤ st) (ne_st_w : st ≠ w) (ne_st_pg : st ≠ pg) (ne_st_np : st ≠ np) (ne_w_pg : w ≠ pg) (ne_w_np : w ≠ np) (ne_pg_np : pg ≠ np) :
    own_Met lL jy8 (Jvm.Cond.code jy8 prog_38_method_24_code 7 none :: ws) jr2 #[(.ref st), (.int (0 : Int32)), (.int (0 : Int32)), (.ref w), (.int (1 : Int32))] Z h0 (Q_rm_rpa Z st w pg np kp kw sz pb h0 n0) := by
  refine own_begin (plainFor_of_name own_pn_com_example_portion_portion_server_OffsetSet) (fun mM => own_ef_rm_rpa mM st (0 : Int32) (0 : Int32) w (1 : Int32)) fun pP eE sS mM below meth cC s₁ hx hby hml hZ hown hnm hre hlk X0 e0 => ?_
  have hC := @Jvm.hb _ _ hby
  have N0 := Fr.nil n0
  have K0 := Keep.refl h0 [st]
  let ll1 : Array Slot := #[vR st, vI 0, vI 0, vR w, vI 1, vU, vU]
  refine jg s₁ mM 1 ll1 [(.ref st)] (fun tT kK => ?_) ?_
  · refine XS.aloadN X0.here hx rfl (hC e11_0.1) rfl rfl ?_
    exact kK
  refine jf X0 hx hZ hown (jk hw 37 rfl) e0 F3 (hC e11_0.2.1) fun T1_ X1_ e1_ => ?_
  let ll2 : Array Slot := #[vR st, vI 0, vI 0, vR w, vI 1, vI 1, vU]
  refine jg T1_ mM 14 ll2 [(.ref st)] (fun tT kK => ?_) ?_
  · refine XS.iloadN X1_.here hx rfl (hC e11_0.2.2.1) rfl ?_
    refine XS.iloadN X1_.here hx rfl (hC e11_0.2.2.2) rfl ?_
    refine XS.isub X1_.here hx rfl (hC e11_6.1) rfl ?_
    refine XS.isub X1_.here hx rfl (hC e11_6.2.1) rfl ?_
    refine XS.iload X1_.here hx rfl (hC e11_6.2.2.1) rfl ?_
    refine XS.iadd X1_.here hx rfl (hC e11_6.2.2.2) rfl ?_
    refine XS.istore X1_.here hx rfl (hC e11_11.1) rfl (l' := ll2) rfl ?_
    refine XS.aloadN X1_.here hx rfl (hC e11_11.2.1) rfl rfl ?_
    exact kK
  refine jf X1_ hx hZ hown (jk hw 16 rfl) e1_ F2 (hC e11_11.2.2.1) fun T2_ X2_ e2_ => ?_
  let ll3 : Array Slot := #[vR st, vI 0, vI 0, vR w, vI 1, vI 1, vR np]
  refine jg T2_ mM 22 ll3 [(.ref st), (.int (1 : Int32))] (fun tT kK => ?_) ?_
  · refine XS.astore X2_.here hx rfl (hC e11_11.2.2.2) rfl rfl (l' := ll3) rfl ?_
    refine XS.iload X2_.here hx rfl (hC e11_19.1) rfl ?_
    refine XS.aloadN X2_.here hx rfl (hC e11_19.2.1) rfl rfl ?_
    exact kK
  refine jf X2_ hx hZ hown (jk hw 16 rfl) e2_ F2 (hC e11_19.2.2.1) fun T3_ X3_ e3_ => ?_
  obtain ⟨cl4_, Ar4_, qk4_, Sz4_, Nn4_, Hh4_, Gg4_⟩ := id Vn
  refine jg T3_ mM 61 ll3 [(.int (2 : Int32))] (fun tT kK => ?_) ?_
  · refine X3_.arraylength hx (own_rw e3_ Ar4_.1) (State.isArrayOf_alike hZ.alike Ar4_.2.1) (g := (mkF mM 25 ll3 [(.ref np), (.int (1 : Int32))])) rfl rfl (hC e11_19.2.2.2) _ ?_
    rw [len_of Sz4_ Nn4_]
    refine XS.icmpYes X3_.here hx rfl (pc0 := 26) (pc' := 41) rfl (hC e11_26.1) rfl (tlt ((by decide) : (0 : Int32) < (1 : Int32))).2.2.1 (by decide) (by decide) ?_
    refine XS.iload X3_.here hx rfl (hC e11_26.2.1) rfl ?_
    refine XS.ifYes X3_.here hx rfl (pc0 := 43) (pc' := 52) rfl (hC e11_26.2.2.1) rfl ((if0 _ _).trans (feq ((by decide) : ¬ ((1 : Int32) = (0 : Int32)))).2) (by decide) (by decide) ?_
    refine XS.iload X3_.here hx rfl (hC e11_26.2.2.2) rfl ?_
    refine XS.iload X3_.here hx rfl (hC e11_54.1) rfl ?_
    refine XS.iconst X3_.here hx rfl (hC e11_54.2.1) ?_
    refine XS.idiv X3_.here hx rfl (hC e11_54.2.2.1) rfl (by decide) ?_
    refine XS.iadd X3_.here hx rfl (hC e11_54.2.2.2) rfl ?_
    refine XS.iconst X3_.here hx rfl (hC e11_59.1) ?_
    refine XS.iadd X3_.here hx rfl (hC e11_59.2.1) rfl ?_
    exact kK
  obtain ⟨T5_, h5_, k5_, X5_, e5_, E5_, A5_, O5_, st5_⟩ := newR X3_ hx hZ hown (jk hw 53 rfl) (jk hw 66 rfl) e3_ (g := (mkF mM 61 ll3 [(.int (2 : Int32))])) rfl (hC e11_59.2.2.1) rfl (by decide) (cap := 2) (by decide) (by decide) (by decide) (by decide)
  obtain ⟨b5_, g5_⟩ : ∃ z, z = h0.size := ⟨_, rfl⟩
  rw [← g5_] at A5_ st5_
  have sz_b5_ : h0.size ≤ b5_ := Nat.le_trans K0.1 (Nat.le_of_eq g5_.symm)
  have ge_b5_ : n0 ≤ b5_ := Nat.le_trans Z0 sz_b5_
  have ne6_ : st ≠ b5_ := Nat.ne_of_lt (Nat.lt_of_lt_of_le F0.lt (Nat.le_of_eq g5_.symm))
  have ne7_ : np ≠ b5_ := Nat.ne_of_lt (Nat.lt_of_lt_of_le Vn.lt (Nat.le_of_eq g5_.symm))
  have ne8_ : w ≠ b5_ := Nat.ne_of_lt (Nat.lt_of_lt_of_le Vw.lt (Nat.le_of_eq g5_.symm))
  have fc10_ := F0.ext E5_
  have fc11_ := F1.ext E5_
  have fc12_ := F2.ext E5_
  have fc13_ := F3.ext E5_
  have fc14_ := F4.ext E5_
  have fc15_ := Vn.ext E5_
  have fc16_ := Vw.ext E5_
  have fc17_ := Eg.ext E5_
  have K5_ := K0.ext E5_
  have V5_ : Arv Z h5_ b5_ k5_ (.object "com/example/portion/portion/server/OffsetSet$Page") (2 : Int32) [.null, .null] .null := (Arv.new A5_ (by decide)).pad (pad_rep [] .null 2)
  refine own_fin st5_ ?_
  let ll4 : Array Slot := #[vR st, vI 0, vI 0, vR w, vI 1, vI 1, vR b5_]
  refine jg T5_ mM 67 ll4 [(.ref st)] (fun tT kK => ?_) ?_
  · refine XS.astore X5_.here hx rfl (hC e11_59.2.2.2) rfl rfl (l' := ll4) rfl ?_
    refine XS.aloadN X5_.here hx rfl (hC e11_66.1) rfl rfl ?_
    exact kK
  refine jf X5_ hx hZ hown (jk hw 16 rfl) e5_ fc12_ (hC e11_66.2.1) fun T18_ X18_ e18_ => ?_
  refine jg T18_ mM 75 ll4 [(.int (0 : Int32)), (.int (0 : Int32)), (.ref b5_), (.int (0 : Int32)), (.ref np)] (fun tT kK => ?_) ?_
  · refine XS.iconst X18_.here hx rfl (hC e11_66.2.2.1) ?_
    refine XS.aload X18_.here hx rfl (hC e11_66.2.2.2) rfl rfl ?_
    refine XS.iconst X18_.here hx rfl (hC e11_73.1) ?_
    refine XS.iloadN X18_.here hx rfl (hC e11_73.2.1) rfl ?_
    exact kK
  obtain ⟨T19_, h19_, L19_, X19_, e19_, N19_, Kc19_, V19_, st19_⟩ := cpA X18_ hx hZ hown (jk hw 72 rfl) (jk hw 75 rfl) (jk hw 73 rfl) (jk hw 74 rfl) e18_ fc15_ V5_ (us := []) (Or.inr ⟨rfl, rfl, trivial⟩) (by decide) (by decide) (by decide) (by decide) (by decide) rfl (Nat.le_of_ble_eq_true rfl) N0 ge_b5_ (g := (mkF mM 75 ll4 [(.int (0 : Int32)), (.int (0 : Int32)), (.ref b5_), (.int (0 : Int32)), (.ref np)])) rfl (by rw [hml]; rfl) rfl (hC e11_73.2.2.1) (by decide) (W := 0) (by show 2 * 0 + _ ≤ _; exact Nat.le_of_eq rfl) (by decide)
  have fc20_ := fc10_.keep Kc19_
  have fc21_ := fc11_.keep Kc19_ (ninS ne6_ nin0)
  have fc22_ := fc12_.keep Kc19_ (ninS ne6_ nin0)
  have fc23_ := fc13_.keep Kc19_ (ninS ne6_ nin0)
  have fc24_ := fc14_.keep Kc19_ (ninS ne6_ nin0)
  have fc25_ := fc15_.keep Kc19_ (ninS ne7_ nin0)
  have fc26_ := fc16_.keep Kc19_ (ninS ne8_ nin0)
  have fc27_ := fc17_.keep Kc19_
  have Vw19_ : Arv Z h19_ b5_ k5_ (.object "com/example/portion/portion/server/OffsetSet$Page") (2 : Int32) [.null, .null] .null := V19_
  have K19_ := K5_.trans Kc19_ (allS (Or.inr sz_b5_) all0)
  refine own_fin st19_ ?_
  refine jg T19_ mM 79 ll4 [(.ref st)] (fun tT kK => ?_) ?_
  · refine XS.aloadN X19_.here hx rfl (hC e11_73.2.2.2) rfl rfl ?_
    exact kK
  refine jf X19_ hx hZ hown (jk hw 16 rfl) e19_ fc22_ (hC e11_79.1) fun T28_ X28_ e28_ => ?_
  refine jg T28_ mM 90 ll4 [(.ref st), (.int (1 : Int32)), (.ref b5_), (.int (0 : Int32)), (.ref np)] (fun tT kK => ?_) ?_
  · refine XS.iloadN X28_.here hx rfl (hC e11_79.2.1) rfl ?_
    refine XS.aload X28_.here hx rfl (hC e11_79.2.2.1) rfl rfl ?_
    refine XS.iloadN X28_.here hx rfl (hC e11_79.2.2.2) rfl ?_
    refine XS.iload X28_.here hx rfl (hC e11_86.1) rfl ?_
    refine XS.iadd X28_.here hx rfl (hC e11_86.2.1) rfl ?_
    refine XS.aloadN X28_.here hx rfl (hC e11_86.2.2.1) rfl rfl ?_
    exact kK
  refine jf X28_ hx hZ hown (jk hw 37 rfl) e28_ fc23_ (hC e11_86.2.2.2) fun T29_ X29_ e29_ => ?_
  refine jg T29_ mM 95 ll4 [(.int (0 : Int32)), (.int (1 : Int32)), (.ref b5_), (.int (0 : Int32)), (.ref np)] (fun tT kK => ?_) ?_
  · refine XS.iloadN X29_.here hx rfl (hC e11_93.1) rfl ?_
    refine XS.isub X29_.here hx rfl (hC e11_93.2.1) rfl ?_
    exact kK
  obtain ⟨T30_, h30_, L30_, X30_, e30_, N30_, Kc30_, V30_, st30_⟩ := cpA X29_ hx hZ hown (jk hw 72 rfl) (jk hw 75 rfl) (jk hw 73 rfl) (jk hw 74 rfl) e29_ fc25_ Vw19_ (us := []) (Or.inr ⟨rfl, rfl, trivial⟩) (by decide) (by decide) (by decide) (by decide) (by decide) rfl (Nat.le_of_ble_eq_true rfl) N19_ ge_b5_ (g := (mkF mM 95 ll4 [(.int (0 : Int32)), (.int (1 : Int32)), (.ref b5_), (.int (0 : Int32)), (.ref np)])) rfl (by rw [hml]; rfl) rfl (hC e11_93.2.2.1) (by decide) (W := 0) (by show 2 * 0 + _ ≤ _; exact Nat.le_of_eq rfl) (by decide)
  have fc31_ := fc20_.keep Kc30_
  have fc32_ := fc21_.keep Kc30_ (ninS ne6_ nin0)
  have fc33_ := fc22_.keep Kc30_ (ninS ne6_ nin0)
  have fc34_ := fc23_.keep Kc30_ (ninS ne6_ nin0)
  have fc35_ := fc24_.keep Kc30_ (ninS ne6_ nin0)
  have fc37_ := fc26_.keep Kc30_ (ninS ne8_ nin0)
  have fc38_ := fc27_.keep Kc30_
  have Vw30_ : Arv Z h30_ b5_ k5_ (.object "com/example/portion/portion/server/OffsetSet$Page") (2 : Int32) [.null, .null] .null := V30_
  have K30_ := K19_.trans Kc30_ (allS (Or.inr sz_b5_) all0)
  refine own_fin st30_ ?_
  refine jg T30_ mM 105 ll4 [(.int (1 : Int32)), (.int (0 : Int32)), (.ref b5_), (.int (0 : Int32)), (.ref w)] (fun tT kK => ?_) ?_
  · refine XS.aloadN X30_.here hx rfl (hC e11_93.2.2.2) rfl rfl ?_
    refine XS.iconst X30_.here hx rfl (hC e11_99.1) ?_
    show Steps pP.tables eE below (T30_.setTop (mkF mM 100 ll4 [(.int (0 : Int32)), (.ref w)])) tT
    refine XS.aload X30_.here hx rfl (hC e11_99.2.1) rfl rfl ?_
    refine XS.iloadN X30_.here hx rfl (hC e11_99.2.2.1) rfl ?_
    refine XS.iload X30_.here hx rfl (hC e11_99.2.2.2) rfl ?_
    exact kK
  obtain ⟨cl39_, Ar39_, qk39_, Sz39_, Nn39_, Hh39_, Gg39_⟩ := id Vw30_
  obtain ⟨T40_, h40_, L40_, X40_, e40_, N40_, Kc40_, V40_, st40_⟩ := cpA X30_ hx hZ hown (jk hw 72 rfl) (jk hw 75 rfl) (jk hw 73 rfl) (jk hw 74 rfl) e30_ fc37_ Vw30_ (us := [(.ref pg)]) (Or.inr ⟨rfl, rfl, ⟨Sto.ofV Ar39_ qk39_ O5_ (Ins.self fc38_), trivial⟩⟩) (by decide) (by decide) (by decide) (by decide) (by decide) rfl (Nat.le_of_ble_eq_true rfl) N30_ ge_b5_ (g := (mkF mM 105 ll4 [(.int (1 : Int32)), (.int (0 : Int32)), (.ref b5_), (.int (0 : Int32)), (.ref w)])) rfl (by rw [hml]; rfl) rfl (hC e11_105.1) (by decide) (W := 0) (by show 2 * 0 + _ ≤ _; exact Nat.le_of_eq rfl) (by decide)
  have fc41_ := fc31_.keep Kc40_
  have fc42_ := fc32_.keep Kc40_ (ninS ne6_ nin0)
  have fc43_ := fc33_.keep Kc40_ (ninS ne6_ nin0)
  have fc44_ := fc34_.keep Kc40_ (ninS ne6_ nin0)
  have fc45_ := fc35_.keep Kc40_ (ninS ne6_ nin0)
  have Vw40_ : Arv Z h40_ b5_ k5_ (.object "com/example/portion/portion/server/OffsetSet$Page") (2 : Int32) [(.ref pg), .null] .null := V40_
  have K40_ := K30_.trans Kc40_ (allS (Or.inr sz_b5_) all0)
  refine own_fin st40_ ?_
  refine jg T40_ mM 111 ll4 [(.ref st), (.ref b5_)] (fun tT kK => ?_) ?_
  · refine XS.aload X40_.here hx rfl (hC e11_105.2.1) rfl rfl ?_
    refine XS.aloadN X40_.here hx rfl (hC e11_105.2.2.1) rfl rfl ?_
    exact kK
  refine jf X40_ hx hZ hown (jk hw 16 rfl) e40_ fc43_ (hC e11_105.2.2.2) fun T49_ X49_ e49_ => ?_
  refine jg T49_ mM 143 ll4 [(.ref b5_), (.ref st)] (fun tT kK => ?_) ?_
  · refine Jvm.RoadKit.acmp (g := (mkF mM 114 ll4 [(.ref np), (.ref b5_)])) X49_ hx rfl rfl rfl (pc0 := 114) (pc' := 140) (same := false) rfl (hC e11_114.1) rfl (decide_eq_false fun q => (Ne.symm ne7_) (Value.ref.inj q)) (by decide) (by decide) ?_
    refine XS.aloadN X49_.here hx rfl (hC e11_114.2.1) rfl rfl ?_
    refine XS.aload X49_.here hx rfl (hC e11_114.2.2.1) rfl rfl ?_
    exact kK
  refine jq X49_ hx hZ hown (jk hw 16 rfl) e49_ fc43_ fc41_ (jk hw 17 rfl) (jk hw 6 rfl) (ty := (.array (.object "com/example/portion/portion/server/OffsetSet$Page"))) (by decide) rfl rfl (hC e11_114.2.2.2) K40_ N40_ (Or.inl (List.mem_of_getElem? (i := 0) rfl)) g_st fun T50_ h50_ X50_ e50_ W50_ Fw50_ K50_ N50_ => ?_
  have fc51_ := fc41_.wr W50_
  have fc52_ := fc42_.other W50_ (Or.inr (js0 hw))
  have fc53_ := fc44_.other W50_ (Or.inr (js1 hw))
  have fc54_ := fc45_.other W50_ (Or.inr (js2 hw))
  have fc58_ := Vw40_.other W50_ (Ne.symm ne6_)
  refine jg T50_ mM 149 ll4 [(.int (1 : Int32)), (.ref st)] (fun tT kK => ?_) ?_
  · refine XS.aloadN X50_.here hx rfl (hC e11_146.1) rfl rfl ?_
    refine XS.iload X50_.here hx rfl (hC e11_146.2.1) rfl ?_
    exact kK
  refine jq X50_ hx hZ hown (jk hw 37 rfl) e50_ fc53_ fc51_ (jk hw 38 rfl) (jk hw 6 rfl) (ty := .int) (by decide) rfl rfl (hC e11_146.2.2) K50_ N50_ (Or.inl (List.mem_of_getElem? (i := 0) rfl)) g_st fun T59_ h59_ X59_ e59_ W59_ Fw59_ K59_ N59_ => ?_
  have fc60_ := fc51_.wr W59_
  have fc61_ := fc52_.other W59_ (Or.inr (js22 hw))
  have fc62_ := Fw50_.other W59_ (Or.inr (js1 hw).symm)
  have fc63_ := fc54_.other W59_ (Or.inr (js4 hw).symm)
  have fc67_ := fc58_.other W59_ (Ne.symm ne6_)
  exact own_rV X59_ hx hlk hre (hC d11_152) e59_ (by decide) (by decide) ⟨b5_, k5_, rfl, N59_, K59_, sz_b5_, O5_, fc60_, fc61_, fc62_, Fw59_, fc63_, fc67_⟩
theorem e11_29 : jD8 29 (.iload 5, 2) ∧ jD8 31 (.aload_n 0, 1) ∧ jD8 32 (.getfield 16, 3) ∧ jD8 35 (.arraylength, 1) := by decide +kernel
theorem e11_36 : jD8 36 (.iconst 4, 1) ∧ jD8 37 (.idiv, 1) ∧ jD8 38 (.if_icmp .gt 40, 3) ∧ jD8 117 (.iload 5, 2) := by decide +kernel
theorem e11_119 : jD8 119 (.aload_n 0, 1) ∧ jD8 120 (.getfield 109, 3) ∧ jD8 123 (.if_icmp .ge 17, 3) := by decide +kernel
theorem own_ef_rm_rpb (mM : MethodId) (x0 : Addr) (x1 : Int32) (x2 : Int32) (x3 : Addr) (x4 : Int32) : entryFrame mM #[(.ref x0), (.int x1), (.int x2), (.ref x3), (.int x4)] 7 = mkF mM 0 #[.val (.ref x0), .val (.int x1), .val (.int x2), .val (.ref x3), .val (.int x4), .unset, .unset] [] := by first | (simp [entryFrame, mkF, argsToLocals, Value.category]; done) | rfl
def Q_rm_rpb (Z : State) (st : Addr) (w : Addr) (pg : Addr) (p0 : Addr) (pa : Addr) (kq : ClassId) (kw : ClassId) (sz : Int64) (pb : Int32) (h0 : Heap) (n0 : Nat) (vV : Option Value) (hH : Heap) (lA : List Loc) : Prop := vV = none ∧ Fr n0 lA ∧ (Keep h0 hH [st, pa]) ∧ (jE0 Z hH st) ∧ (jF9 Z hH st (.long sz)) ∧ (jF1 Z hH st (.ref pa)) ∧ (jF0 Z hH st (.int (2 : Int32))) ∧ (jF10 Z hH st (.int pb))
set_option maxRecDepth 65536 in
set_option maxHeartbeats 40000000 in
theorem rm_rpb (lL : Launch) (Z : State) (a0 : Array Value) (hw : own_H a0 Z) (ws : List Jvm.Cond) (st : Addr) (w : Addr) (pg : Addr) (p0 : Addr) (pa : Addr) (kq : ClassId) (kw : ClassId) (sz : Int64) (pb : Int32) (h0 : Heap) (n0 : Nat) (Z0 : n0 ≤ h0.size) (F0 : jE0 Z h0 st) (F1 : jF9 Z h0 st (.long sz)) (F2 : jF1 Z h0 st (.ref pa)) (F3 : jF0 Z h0 st (.int (1 : Int32))) (F4 : jF10 Z h0 st (.int pb)) (Vn : Arv Z h0 pa kq (.object "com/example/portion/portion/server/OffsetSet$Page") (2 : Int32) [(.ref p0), .null] .null) (Vw : Arv Z h0 w kw (.object "com/example/portion/portion/server/OffsetSet$Page") (1 : Int32) [(.ref pg)] .null) (Eg : jE1 Z h0 pg) (Oq : Ovr Z kq "com/example/portion/portion/server/OffsetSet$Page") (g_st : n0 ≤ st) (g_pa : n0 ≤ pa) (ne_st_w : st ≠ w) (ne_st_pg : st ≠ pg) (ne_st_pa : st ≠ pa) (ne_w_pg : w ≠ pg) (ne_w_pa : w ≠ pa) (ne_pg_pa : pg ≠ pa) :
    own_Met lL jy8 (Jvm.Cond.code jy8 prog_38_method_24_code 7 none :: ws) jr3 #[(.ref st), (.int (1 : Int32)), (.int (1 : Int32)), (.ref w), (.int (1 : Int32))] Z h0 (Q_rm_rpb Z st w pg p0 pa kq kw sz pb h0 n0) := by
  refine own_begin (plainFor_of_name own_pn_com_example_portion_portion_server_OffsetSet) (fun mM => own_ef_rm_rpb mM st (1 : Int32) (1 : Int32) w (1 : Int32)) fun pP eE sS mM below meth cC s₁ hx hby hml hZ hown hnm hre hlk X0 e0 => ?_
  have hC := @Jvm.hb _ _ hby
  have N0 := Fr.nil n0
  have K0 := Keep.refl h0 [st, pa]
  let ll1 : Array Slot := #[vR st, vI 1, vI 1, vR w, vI 1, vU, vU]
  refine jg s₁ mM 1 ll1 [(.ref st)] (fun tT kK => ?_) ?_
  · refine XS.aloadN X0.here hx rfl (hC e11_0.1) rfl rfl ?_
    exact kK
  refine jf X0 hx hZ hown (jk hw 37 rfl) e0 F3 (hC e11_0.2.1) fun T1_ X1_ e1_ => ?_
  let ll2 : Array Slot := #[vR st, vI 1, vI 1, vR w, vI 1, vI 2, vU]
  refine jg T1_ mM 14 ll2 [(.ref st)] (fun tT kK => ?_) ?_
  · refine XS.iloadN X1_.here hx rfl (hC e11_0.2.2.1) rfl ?_
    refine XS.iloadN X1_.here hx rfl (hC e11_0.2.2.2) rfl ?_
    refine XS.isub X1_.here hx rfl (hC e11_6.1) rfl ?_
    refine XS.isub X1_.here hx rfl (hC e11_6.2.1) rfl ?_
    refine XS.iload X1_.here hx rfl (hC e11_6.2.2.1) rfl ?_
    refine XS.iadd X1_.here hx rfl (hC e11_6.2.2.2) rfl ?_
    refine XS.istore X1_.here hx rfl (hC e11_11.1) rfl (l' := ll2) rfl ?_
    refine XS.aloadN X1_.here hx rfl (hC e11_11.2.1) rfl rfl ?_
    exact kK
  refine jf X1_ hx hZ hown (jk hw 16 rfl) e1_ F2 (hC e11_11.2.2.1) fun T2_ X2_ e2_ => ?_
  let ll3 : Array Slot := #[vR st, vI 1, vI 1, vR w, vI 1, vI 2, vR pa]
  refine jg T2_ mM 22 ll3 [(.ref st), (.int (2 : Int32))] (fun tT kK => ?_) ?_
  · refine XS.astore X2_.here hx rfl (hC e11_11.2.2.2) rfl rfl (l' := ll3) rfl ?_
    refine XS.iload X2_.here hx rfl (hC e11_19.1) rfl ?_
    refine XS.aloadN X2_.here hx rfl (hC e11_19.2.1) rfl rfl ?_
    exact kK
  refine jf X2_ hx hZ hown (jk hw 16 rfl) e2_ F2 (hC e11_19.2.2.1) fun T3_ X3_ e3_ => ?_
  obtain ⟨cl4_, Ar4_, qk4_, Sz4_, Nn4_, Hh4_, Gg4_⟩ := id Vn
  refine jg T3_ mM 32 ll3 [(.ref st), (.int (2 : Int32))] (fun tT kK => ?_) ?_
  · refine X3_.arraylength hx (own_rw e3_ Ar4_.1) (State.isArrayOf_alike hZ.alike Ar4_.2.1) (g := (mkF mM 25 ll3 [(.ref pa), (.int (2 : Int32))])) rfl rfl (hC e11_19.2.2.2) _ ?_
    rw [len_of Sz4_ Nn4_]
    refine XS.icmpNo X3_.here hx rfl (hC e11_26.1) rfl (flt ((by decide) : ¬ ((2 : Int32) < (2 : Int32)))).2.2.1 ?_
    refine XS.iload X3_.here hx rfl (hC e11_29.1) rfl ?_
    refine XS.aloadN X3_.here hx rfl (hC e11_29.2.1) rfl rfl ?_
    exact kK
  refine jf X3_ hx hZ hown (jk hw 16 rfl) e3_ F2 (hC e11_29.2.2.1) fun T5_ X5_ e5_ => ?_
  obtain ⟨cl6_, Ar6_, qk6_, Sz6_, Nn6_, Hh6_, Gg6_⟩ := id Vn
  refine jg T5_ mM 79 ll3 [(.ref st)] (fun tT kK => ?_) ?_
  · refine X5_.arraylength hx (own_rw e5_ Ar6_.1) (State.isArrayOf_alike hZ.alike Ar6_.2.1) (g := (mkF mM 35 ll3 [(.ref pa), (.int (2 : Int32))])) rfl rfl (hC e11_29.2.2.2) _ ?_
    rw [len_of Sz6_ Nn6_]
    refine XS.iconst X5_.here hx rfl (hC e11_36.1) ?_
    refine XS.idiv X5_.here hx rfl (hC e11_36.2.1) rfl (by decide) ?_
    refine XS.icmpYes X5_.here hx rfl (pc0 := 38) (pc' := 78) rfl (hC e11_36.2.2.1) rfl (tlt ((by decide) : (0 : Int32) < (2 : Int32))).2.2.1 (by decide) (by decide) ?_
    refine XS.aloadN X5_.here hx rfl (hC e11_73.2.2.2) rfl rfl ?_
    exact kK
  refine jf X5_ hx hZ hown (jk hw 16 rfl) e5_ F2 (hC e11_79.1) fun T7_ X7_ e7_ => ?_
  refine jg T7_ mM 90 ll3 [(.ref st), (.int (2 : Int32)), (.ref pa), (.int (1 : Int32)), (.ref pa)] (fun tT kK => ?_) ?_
  · refine XS.iloadN X7_.here hx rfl (hC e11_79.2.1) rfl ?_
    refine XS.aload X7_.here hx rfl (hC e11_79.2.2.1) rfl rfl ?_
    refine XS.iloadN X7_.here hx rfl (hC e11_79.2.2.2) rfl ?_
    refine XS.iload X7_.here hx rfl (hC e11_86.1) rfl ?_
    refine XS.iadd X7_.here hx rfl (hC e11_86.2.1) rfl ?_
    refine XS.aloadN X7_.here hx rfl (hC e11_86.2.2.1) rfl rfl ?_
    exact kK
  refine jf X7_ hx hZ hown (jk hw 37 rfl) e7_ F3 (hC e11_86.2.2.2) fun T8_ X8_ e8_ => ?_
  refine jg T8_ mM 95 ll3 [(.int (0 : Int32)), (.int (2 : Int32)), (.ref pa), (.int (1 : Int32)), (.ref pa)] (fun tT kK => ?_) ?_
  · refine XS.iloadN X8_.here hx rfl (hC e11_93.1) rfl ?_
    refine XS.isub X8_.here hx rfl (hC e11_93.2.1) rfl ?_
    exact kK
  obtain ⟨T9_, h9_, L9_, X9_, e9_, N9_, Kc9_, V9_, st9_⟩ := cpA X8_ hx hZ hown (jk hw 72 rfl) (jk hw 75 rfl) (jk hw 73 rfl) (jk hw 74 rfl) e8_ Vn Vn (us := []) (Or.inr ⟨rfl, rfl, trivial⟩) (by decide) (by decide) (by decide) (by decide) (by decide) rfl (Nat.le_of_ble_eq_true rfl) N0 g_pa (g := (mkF mM 95 ll3 [(.int (0 : Int32)), (.int (2 : Int32)), (.ref pa), (.int (1 : Int32)), (.ref pa)])) rfl (by rw [hml]; rfl) rfl (hC e11_93.2.2.1) (by decide) (W := 0) (by show 2 * 0 + _ ≤ _; exact Nat.le_of_eq rfl) (by decide)
  have fc10_ := F0.keep Kc9_
  have fc11_ := F1.keep Kc9_ (ninS ne_st_pa nin0)
  have fc12_ := F2.keep Kc9_ (ninS ne_st_pa nin0)
  have fc13_ := F3.keep Kc9_ (ninS ne_st_pa nin0)
  have fc14_ := F4.keep Kc9_ (ninS ne_st_pa nin0)
  have fc15_ := Vw.keep Kc9_ (ninS ne_w_pa nin0)
  have fc16_ := Eg.keep Kc9_
  have Vw9_ : Arv Z h9_ pa kq (.object "com/example/portion/portion/server/OffsetSet$Page") (2 : Int32) [(.ref p0), .null] .null := V9_
  have K9_ := K0.trans Kc9_ (allS (Or.inl (List.mem_of_getElem? (i := 1) rfl)) all0)
  refine own_fin st9_ ?_
  refine jg T9_ mM 105 ll3 [(.int (1 : Int32)), (.int (1 : Int32)), (.ref pa), (.int (0 : Int32)), (.ref w)] (fun tT kK => ?_) ?_
  · refine XS.aloadN X9_.here hx rfl (hC e11_93.2.2.2) rfl rfl ?_
    refine XS.iconst X9_.here hx rfl (hC e11_99.1) ?_
    refine XS.aload X9_.here hx rfl (hC e11_99.2.1) rfl rfl ?_
    refine XS.iloadN X9_.here hx rfl (hC e11_99.2.2.1) rfl ?_
    refine XS.iload X9_.here hx rfl (hC e11_99.2.2.2) rfl ?_
    exact kK
  obtain ⟨cl17_, Ar17_, qk17_, Sz17_, Nn17_, Hh17_, Gg17_⟩ := id Vw9_
  obtain ⟨T18_, h18_, L18_, X18_, e18_, N18_, Kc18_, V18_, st18_⟩ := cpA X9_ hx hZ hown (jk hw 72 rfl) (jk hw 75 rfl) (jk hw 73 rfl) (jk hw 74 rfl) e9_ fc15_ Vw9_ (us := [(.ref pg)]) (Or.inr ⟨rfl, rfl, ⟨Sto.ofV Ar17_ qk17_ Oq (Ins.self fc16_), trivial⟩⟩) (by decide) (by decide) (by decide) (by decide) (by decide) rfl (Nat.le_of_ble_eq_true rfl) N9_ g_pa (g := (mkF mM 105 ll3 [(.int (1 : Int32)), (.int (1 : Int32)), (.ref pa), (.int (0 : Int32)), (.ref w)])) rfl (by rw [hml]; rfl) rfl (hC e11_105.1) (by decide) (W := 0) (by show 2 * 0 + _ ≤ _; exact Nat.le_of_eq rfl) (by decide)
  have fc19_ := fc10_.keep Kc18_
  have fc20_ := fc11_.keep Kc18_ (ninS ne_st_pa nin0)
  have fc21_ := fc12_.keep Kc18_ (ninS ne_st_pa nin0)
  have fc22_ := fc13_.keep Kc18_ (ninS ne_st_pa nin0)
  have fc23_ := fc14_.keep Kc18_ (ninS ne_st_pa nin0)
  have K18_ := K9_.trans Kc18_ (allS (Or.inl (List.mem_of_getElem? (i := 1) rfl)) all0)
  refine own_fin st18_ ?_
  refine jg T18_ mM 111 ll3 [(.ref st), (.ref pa)] (fun tT kK => ?_) ?_
  · refine XS.aload X18_.here hx rfl (hC e11_105.2.1) rfl rfl ?_
    refine XS.aloadN X18_.here hx rfl (hC e11_105.2.2.1) rfl rfl ?_
    exact kK
  refine jf X18_ hx hZ hown (jk hw 16 rfl) e18_ fc21_ (hC e11_105.2.2.2) fun T26_ X26_ e26_ => ?_
  refine jg T26_ mM 120 ll3 [(.ref st), (.int (2 : Int32))] (fun tT kK => ?_) ?_
  · refine Jvm.RoadKit.acmp (g := (mkF mM 114 ll3 [(.ref pa), (.ref pa)])) X26_ hx rfl rfl rfl (pc0 := 114) (pc' := 117) (same := true) rfl (hC e11_114.1) rfl (decide_eq_true rfl) (by decide) (by decide) ?_
    refine XS.iload X26_.here hx rfl (hC e11_36.2.2.2) rfl ?_
    refine XS.aloadN X26_.here hx rfl (hC e11_119.1) rfl rfl ?_
    exact kK
  refine jf X26_ hx hZ hown (jk hw 37 rfl) e26_ fc22_ (hC e11_119.2.1) fun T27_ X27_ e27_ => ?_
  refine jg T27_ mM 143 ll3 [(.ref pa), (.ref st)] (fun tT kK => ?_) ?_
  · refine XS.icmpYes X27_.here hx rfl (pc0 := 123) (pc' := 140) rfl (hC e11_119.2.2) rfl (flt ((by decide) : ¬ ((2 : Int32) < (1 : Int32)))).2.1 (by decide) (by decide) ?_
    show Steps pP.tables eE below (T27_.setTop (mkF mM 140 ll3 [])) tT
    refine XS.aloadN X27_.here hx rfl (hC e11_114.2.1) rfl rfl ?_
    refine XS.aload X27_.here hx rfl (hC e11_114.2.2.1) rfl rfl ?_
    exact kK
  refine jq X27_ hx hZ hown (jk hw 16 rfl) e27_ fc21_ fc19_ (jk hw 17 rfl) (jk hw 6 rfl) (ty := (.array (.object "com/example/portion/portion/server/OffsetSet$Page"))) (by decide) rfl rfl (hC e11_114.2.2.2) K18_ N18_ (Or.inl (List.mem_of_getElem? (i := 0) rfl)) g_st fun T28_ h28_ X28_ e28_ W28_ Fw28_ K28_ N28_ => ?_
  have fc29_ := fc19_.wr W28_
  have fc30_ := fc20_.other W28_ (Or.inr (js0 hw))
  have fc31_ := fc22_.other W28_ (Or.inr (js1 hw))
  have fc32_ := fc23_.other W28_ (Or.inr (js2 hw))
  refine jg T28_ mM 149 ll3 [(.int (2 : Int32)), (.ref st)] (fun tT kK => ?_) ?_
  · refine XS.aloadN X28_.here hx rfl (hC e11_146.1) rfl rfl ?_
    refine XS.iload X28_.here hx rfl (hC e11_146.2.1) rfl ?_
    exact kK
  refine jq X28_ hx hZ hown (jk hw 37 rfl) e28_ fc31_ fc29_ (jk hw 38 rfl) (jk hw 6 rfl) (ty := .int) (by decide) rfl rfl (hC e11_146.2.2) K28_ N28_ (Or.inl (List.mem_of_getElem? (i := 0) rfl)) g_st fun T36_ h36_ X36_ e36_ W36_ Fw36_ K36_ N36_ => ?_
  have fc37_ := fc29_.wr W36_
  have fc38_ := fc30_.other W36_ (Or.inr (js22 hw))
  have fc39_ := Fw28_.other W36_ (Or.inr (js1 hw).symm)
  have fc40_ := fc32_.other W36_ (Or.inr (js4 hw).symm)
  exact own_rV X36_ hx hlk hre (hC d11_152) e36_ (by decide) (by decide) ⟨rfl, N36_, K36_, fc37_, fc38_, fc39_, Fw36_, fc40_⟩
theorem e26_0 : jD9 0 (.lload_n 1, 1) ∧ jD9 1 (.lstore_n 3, 1) ∧ jD9 2 (.lload_n 3, 1) ∧ jD9 3 (.ldc2_w 145, 3) := by decide +kernel
theorem e26_6 : jD9 6 (.land, 1) ∧ jD9 7 (.lconst 0, 1) ∧ jD9 8 (.lcmp, 1) ∧ jD9 9 (.ifCond .eq 38, 3) := by decide +kernel
theorem e26_47 : jD9 47 (.aload_n 0, 1) ∧ jD9 48 (.getfield 13, 3) ∧ jD9 51 (.aload_n 0, 1) ∧ jD9 52 (.dup, 1) := by decide +kernel
theorem e26_53 : jD9 53 (.getfield 35, 3) ∧ jD9 56 (.dup_x1, 1) ∧ jD9 57 (.iconst 1, 1) ∧ jD9 58 (.iadd, 1) := by decide +kernel
theorem d26_59 : jD9 59 (.putfield 35, 3) := by decide +kernel
theorem js23 {Z : State} {a0 : Array Value} (hw : own_H a0 Z) : jQ4 Z ≠ jQ9 Z := slot_ne (Or.inl (jk hw 77 rfl)) (Or.inl (jk hw 106 rfl)) (by decide) (t := .long) (t' := .int) (by decide) (by decide)
theorem js24 {Z : State} {a0 : Array Value} (hw : own_H a0 Z) : jQ6 Z ≠ jQ9 Z := slot_ne (Or.inl (jk hw 92 rfl)) (Or.inl (jk hw 106 rfl)) (by decide) (t := .long) (t' := .int) (by decide) (by decide)
theorem js25 {Z : State} {a0 : Array Value} (hw : own_H a0 Z) : jQ7 Z ≠ jQ9 Z := slot_ne (Or.inl (jk hw 89 rfl)) (Or.inl (jk hw 106 rfl)) (by decide) (t := .long) (t' := .int) (by decide) (by decide)
theorem js26 {Z : State} {a0 : Array Value} (hw : own_H a0 Z) : jQ8 Z ≠ jQ9 Z := slot_ne (Or.inl (jk hw 108 rfl)) (Or.inl (jk hw 106 rfl)) (by decide) (t := .int) (t' := .int) (by decide) (by decide)
theorem js27 {Z : State} {a0 : Array Value} (hw : own_H a0 Z) : jQ11 Z ≠ jQ9 Z := slot_ne (Or.inl (jk hw 124 rfl)) (Or.inl (jk hw 106 rfl)) (by decide) (t := .long) (t' := .int) (by decide) (by decide)
theorem js28 {Z : State} {a0 : Array Value} (hw : own_H a0 Z) : jQ12 Z ≠ jQ9 Z := slot_ne (Or.inl (jk hw 126 rfl)) (Or.inl (jk hw 106 rfl)) (by decide) (t := .long) (t' := .int) (by decide) (by decide)
theorem js29 {Z : State} {a0 : Array Value} (hw : own_H a0 Z) : jQ13 Z ≠ jQ9 Z := slot_ne (Or.inl (jk hw 128 rfl)) (Or.inl (jk hw 106 rfl)) (by decide) (t := .long) (t' := .int) (by decide) (by decide)
theorem e26_62 : jD9 62 (.lload_n 3, 1) ∧ jD9 63 (.l2i, 1) ∧ jD9 64 (.i2b, 1) ∧ jD9 65 (.bastore, 1) := by decide +kernel
theorem e26_66 : jD9 66 (.return_, 1) ∧ jD9 12 (.aload_n 0, 1) ∧ jD9 13 (.getfield 13, 3) ∧ jD9 16 (.aload_n 0, 1) := by decide +kernel
theorem e26_17 : jD9 17 (.dup, 1) ∧ jD9 18 (.getfield 35, 3) ∧ jD9 21 (.dup_x1, 1) ∧ jD9 22 (.iconst 1, 1) := by decide +kernel
theorem e26_23 : jD9 23 (.iadd, 1) ∧ jD9 24 (.putfield 35, 3) ∧ jD9 27 (.lload_n 3, 1) ∧ jD9 28 (.ldc2_w 147, 3) := by decide +kernel
theorem e26_31 : jD9 31 (.land, 1) ∧ jD9 32 (.ldc2_w 149, 3) ∧ jD9 35 (.lor, 1) ∧ jD9 36 (.l2i, 1) := by decide +kernel
theorem e26_37 : jD9 37 (.i2b, 1) ∧ jD9 38 (.bastore, 1) ∧ jD9 39 (.lload_n 3, 1) ∧ jD9 40 (.bipush 7, 2) := by decide +kernel
theorem e26_42 : jD9 42 (.lushr, 1) ∧ jD9 43 (.lstore_n 3, 1) ∧ jD9 44 (.goto (-42), 3) := by decide +kernel
theorem own_ef_rm_w (mM : MethodId) (x0 : Addr) (x1 : Int64) : entryFrame mM #[(.ref x0), (.long x1)] 5 = mkF mM 0 #[.val (.ref x0), .val (.long x1), .second, .unset, .unset] [] := by first | (simp [entryFrame, mkF, argsToLocals, Value.category]; done) | rfl
def Q_rm_w (Z : State) (a : Addr) (ba : Addr) (kb : ClassId) (sz : Int64) (ff : Int64) (ft : Int64) (lg : Int64) (lf : Int64) (lt : Int64) (v : Int64) (en : Int32) (la : Int32) (vs : List Value) (h0 : Heap) (n0 : Nat) (vV : Option Value) (hH : Heap) (lA : List Loc) : Prop := ∃ en' : Int32, ∃ vs' : List Value, vV = none ∧ Fr n0 lA ∧ (Keep h0 hH [a, ba]) ∧ (vs'.length = 28) ∧ (en.toInt < en'.toInt ∧ en'.toInt ≤ en.toInt + 3) ∧ (jE1 Z hH a) ∧ (jF11 Z hH a (.long sz)) ∧ (jF2 Z hH a (.long ff)) ∧ (jF4 Z hH a (.long ft)) ∧ (jF12 Z hH a (.ref ba)) ∧ (jF8 Z hH a (.int (0 : Int32))) ∧ (jF7 Z hH a (.int en')) ∧ (jF3 Z hH a (.int la)) ∧ (jF13 Z hH a (.long lg)) ∧ (jF6 Z hH a (.long lf)) ∧ (jF5 Z hH a (.long lt)) ∧ (Arv Z hH ba kb .byte (28 : Int32) vs' (.int (0 : Int32)))
set_option maxRecDepth 65536 in
set_option maxHeartbeats 40000000 in
theorem rm_w (lL : Launch) (Z : State) (a0 : Array Value) (hw : own_H a0 Z) (ws : List Jvm.Cond) (a : Addr) (ba : Addr) (kb : ClassId) (sz : Int64) (ff : Int64) (ft : Int64) (lg : Int64) (lf : Int64) (lt : Int64) (v : Int64) (en : Int32) (la : Int32) (vs : List Value) (h0 : Heap) (n0 : Nat) (Z0 : n0 ≤ h0.size) (F0 : jE1 Z h0 a) (F1 : jF11 Z h0 a (.long sz)) (F2 : jF2 Z h0 a (.long ff)) (F3 : jF4 Z h0 a (.long ft)) (F4 : jF12 Z h0 a (.ref ba)) (F5 : jF8 Z h0 a (.int (0 : Int32))) (F6 : jF7 Z h0 a (.int en)) (F7 : jF3 Z h0 a (.int la)) (F8 : jF13 Z h0 a (.long lg)) (F9 : jF6 Z h0 a (.long lf)) (F10 : jF5 Z h0 a (.long lt)) (Vb : Arv Z h0 ba kb .byte (28 : Int32) vs (.int (0 : Int32))) (hl : vs.length = 28) (he : 0 ≤ en.toInt ∧ en.toInt ≤ 25) (hv : 0 ≤ v.toInt ∧ v.toInt < 2097152) (g_a : n0 ≤ a) (g_ba : n0 ≤ ba) (ne_a_ba : a ≠ ba) :
    own_Met lL jy9 (Jvm.Cond.code jy9 prog_39_method_20_code 5 none :: ws) jr0 #[(.ref a), (.long v)] Z h0 (Q_rm_w Z a ba kb sz ff ft lg lf lt v en la vs h0 n0) := by
  refine own_begin (plainFor_of_name own_pn_com_example_portion_portion_server_OffsetSet_Page) (fun mM => own_ef_rm_w mM a v) fun pP eE sS mM below meth cC s₁ hx hby hml hZ hown hnm hre hlk X0 e0 => ?_
  have hC := @Jvm.hb _ _ hby
  have N0 := Fr.nil n0
  have K0 := Keep.refl h0 [a, ba]
  have q1 := own_e1 (e := en) (by omega)
  have q2 := own_e1 (e := (en + (1 : Int32))) (by omega)
  have q3 := own_e1 (e := ((en + (1 : Int32)) + (1 : Int32))) (by omega)
  let ll1 : Array Slot := #[vR a, vJ v, vS, vJ v, vS]
  refine jg s₁ mM 9 ll1 [(.int (lcmpW (v &&& (-128 : Int64)) (0 : Int64)))] (fun tT kK => ?_) ?_
  · refine XS.lloadN X0.here hx rfl (hC e26_0.1) rfl ?_
    refine XS.lstoreN X0.here hx rfl (hC e26_0.2.1) rfl (l' := ll1) rfl ?_
    refine XS.lloadN X0.here hx rfl (hC e26_0.2.2.1) rfl ?_
    refine X0.ldc2Long hx hown (jm hZ hw 170 rfl) (g := (mkF mM 3 ll1 [(.long v)])) rfl (hC e26_0.2.2.2) _ ?_
    refine XS.land X0.here hx rfl (hC e26_6.1) rfl ?_
    refine XS.lconst X0.here hx rfl (hC e26_6.2.1) ?_
    refine XS.lcmp X0.here hx rfl (hC e26_6.2.2.1) rfl ?_
    exact kK
  by_cases hc9_1_ : (v &&& (-128 : Int64)) = (0 : Int64)
  · refine jg s₁ mM 48 ll1 [(.ref a)] (fun tT kK => ?_) ?_
    · refine XS.ifYes X0.here hx rfl (pc0 := 9) (pc' := 47) rfl (hC e26_6.2.2.2) rfl ((if0 _ _).trans (teq ((lw_eq (v &&& (-128 : Int64)) (0 : Int64)).mpr (hc9_1_ : (v &&& (-128 : Int64)) = (0 : Int64)))).1) (by decide) (by decide) ?_
      refine XS.aloadN X0.here hx rfl (hC e26_47.1) rfl rfl ?_
      exact kK
    refine jf X0 hx hZ hown (jk hw 62 rfl) e0 F4 (hC e26_47.2.1) fun T2_ X2_ e2_ => ?_
    refine jg T2_ mM 53 ll1 [(.ref a), (.ref a), (.ref ba)] (fun tT kK => ?_) ?_
    · refine XS.aloadN X2_.here hx rfl (hC e26_47.2.2.1) rfl rfl ?_
      refine XS.dup X2_.here hx rfl (hC e26_47.2.2.2) rfl rfl ?_
      exact kK
    refine jf X2_ hx hZ hown (jk hw 105 rfl) e2_ F6 (hC e26_53.1) fun T3_ X3_ e3_ => ?_
    refine jg T3_ mM 59 ll1 [(.int (en + (1 : Int32))), (.ref a), (.int en), (.ref ba)] (fun tT kK => ?_) ?_
    · refine XS.dupX1 X3_.here hx rfl (hC e26_53.2.1) rfl rfl rfl ?_
      refine XS.iconst X3_.here hx rfl (hC e26_53.2.2.1) ?_
      refine XS.iadd X3_.here hx rfl (hC e26_53.2.2.2) rfl ?_
      exact kK
    refine jq X3_ hx hZ hown (jk hw 105 rfl) e3_ F6 F0 (jk hw 106 rfl) (jk hw 54 rfl) (ty := .int) (by decide) rfl rfl (hC d26_59) K0 N0 (Or.inl (List.mem_of_getElem? (i := 0) rfl)) g_a fun T4_ h4_ X4_ e4_ W4_ Fw4_ K4_ N4_ => ?_
    have fc5_ := F0.wr W4_
    have fc6_ := F1.other W4_ (Or.inr (js23 hw))
    have fc7_ := F2.other W4_ (Or.inr (js24 hw))
    have fc8_ := F3.other W4_ (Or.inr (js25 hw))
    have fc9_ := F4.other W4_ (Or.inr (js9 hw).symm)
    have fc10_ := F5.other W4_ (Or.inr (js26 hw))
    have fc11_ := F7.other W4_ (Or.inr (js18 hw).symm)
    have fc12_ := F8.other W4_ (Or.inr (js27 hw))
    have fc13_ := F9.other W4_ (Or.inr (js28 hw))
    have fc14_ := F10.other W4_ (Or.inr (js29 hw))
    have fc15_ := Vb.other W4_ (Ne.symm ne_a_ba)
    refine jg T4_ mM 65 ll1 [(.int ((v.toInt32).toInt8.toInt32)), (.int en), (.ref ba)] (fun tT kK => ?_) ?_
    · refine XS.lloadN X4_.here hx rfl (hC e26_62.1) rfl ?_
      refine XS.l2i X4_.here hx rfl (hC e26_62.2.1) rfl ?_
      refine XS.i2b X4_.here hx rfl (hC e26_62.2.2.1) rfl ?_
      exact kK
    obtain ⟨cl16_, Ar16_, qk16_, Sz16_, Nn16_, Hh16_, Gg16_⟩ := id fc15_
    have hin17_ : ¬ (en < 0 ∨ cl16_.slots.size ≤ (en).toNatClampNeg) := inb_of Sz16_ (own_pl (by omega))
    obtain ⟨T17_, h17_, X17_, e17_, W17_, st17_⟩ := stB X4_ hx hZ e4_ Ar16_ (j := en) hin17_ (g := (mkF mM 65 ll1 [(.int ((v.toInt32).toInt8.toInt32)), (.int en), (.ref ba)])) rfl rfl (hC e26_62.2.2.2)
    have V17_ : Arv Z h17_ ba kb .byte (28 : Int32) (vs.set (en).toNatClampNeg (.int (nar .byte ((v.toInt32).toInt8.toInt32)))) (.int (0 : Int32)) := Arv.set Ar16_ qk16_ Sz16_ Nn16_ Hh16_ Gg16_ (fits_nar_byte _) W17_ _ rfl (own_pn (by omega) (by first | exact hl | (simp only [List.length_set]; exact hl)))
    have fc18_ := fc5_.wr W17_
    have fc19_ := fc6_.other W17_ (Or.inl ne_a_ba)
    have fc20_ := fc7_.other W17_ (Or.inl ne_a_ba)
    have fc21_ := fc8_.other W17_ (Or.inl ne_a_ba)
    have fc22_ := fc9_.other W17_ (Or.inl ne_a_ba)
    have fc23_ := fc10_.other W17_ (Or.inl ne_a_ba)
    have fc24_ := Fw4_.other W17_ (Or.inl ne_a_ba)
    have fc25_ := fc11_.other W17_ (Or.inl ne_a_ba)
    have fc26_ := fc12_.other W17_ (Or.inl ne_a_ba)
    have fc27_ := fc13_.other W17_ (Or.inl ne_a_ba)
    have fc28_ := fc14_.other W17_ (Or.inl ne_a_ba)
    have K17_ := K4_.wr W17_ (Or.inl (List.mem_of_getElem? (i := 1) rfl))
    have N17_ := Fr.snoc X17_ N4_ g_ba
    refine own_fin st17_ ?_
    exact own_rV X17_ hx hlk hre (hC e26_66.1) e17_ (by decide) (by decide) ⟨(en + (1 : Int32)), (vs.set (en).toNatClampNeg (.int (nar .byte ((v.toInt32).toInt8.toInt32)))), rfl, N17_, K17_, by first | exact hl | (simp only [List.length_set]; exact hl), by omega, fc18_, fc19_, fc20_, fc21_, fc22_, fc23_, fc24_, fc25_, fc26_, fc27_, fc28_, V17_⟩
  · refine jg s₁ mM 13 ll1 [(.ref a)] (fun tT kK => ?_) ?_
    · refine XS.ifNo X0.here hx rfl (hC e26_6.2.2.2) rfl ((if0 _ _).trans (feq (mt (lw_eq (v &&& (-128 : Int64)) (0 : Int64)).mp (hc9_1_ : ¬ ((v &&& (-128 : Int64)) = (0 : Int64))))).1) ?_
      refine XS.aloadN X0.here hx rfl (hC e26_66.2.1) rfl rfl ?_
      exact kK
    refine jf X0 hx hZ hown (jk hw 62 rfl) e0 F4 (hC e26_66.2.2.1) fun T29_ X29_ e29_ => ?_
    refine jg T29_ mM 18 ll1 [(.ref a), (.ref a), (.ref ba)] (fun tT kK => ?_) ?_
    · refine XS.aloadN X29_.here hx rfl (hC e26_66.2.2.2) rfl rfl ?_
      refine XS.dup X29_.here hx rfl (hC e26_17.1) rfl rfl ?_
      exact kK
    refine jf X29_ hx hZ hown (jk hw 105 rfl) e29_ F6 (hC e26_17.2.1) fun T30_ X30_ e30_ => ?_
    refine jg T30_ mM 24 ll1 [(.int (en + (1 : Int32))), (.ref a), (.int en), (.ref ba)] (fun tT kK => ?_) ?_
    · refine XS.dupX1 X30_.here hx rfl (hC e26_17.2.2.1) rfl rfl rfl ?_
      refine XS.iconst X30_.here hx rfl (hC e26_17.2.2.2) ?_
      refine XS.iadd X30_.here hx rfl (hC e26_23.1) rfl ?_
      exact kK
    refine jq X30_ hx hZ hown (jk hw 105 rfl) e30_ F6 F0 (jk hw 106 rfl) (jk hw 54 rfl) (ty := .int) (by decide) rfl rfl (hC e26_23.2.1) K0 N0 (Or.inl (List.mem_of_getElem? (i := 0) rfl)) g_a fun T31_ h31_ X31_ e31_ W31_ Fw31_ K31_ N31_ => ?_
    have fc32_ := F0.wr W31_
    have fc33_ := F1.other W31_ (Or.inr (js23 hw))
    have fc34_ := F2.other W31_ (Or.inr (js24 hw))
    have fc35_ := F3.other W31_ (Or.inr (js25 hw))
    have fc36_ := F4.other W31_ (Or.inr (js9 hw).symm)
    have fc37_ := F5.other W31_ (Or.inr (js26 hw))
    have fc38_ := F7.other W31_ (Or.inr (js18 hw).symm)
    have fc39_ := F8.other W31_ (Or.inr (js27 hw))
    have fc40_ := F9.other W31_ (Or.inr (js28 hw))
    have fc41_ := F10.other W31_ (Or.inr (js29 hw))
    have fc42_ := Vb.other W31_ (Ne.symm ne_a_ba)
    refine jg T31_ mM 38 ll1 [(.int ((((v &&& (127 : Int64)) ||| (128 : Int64)).toInt32).toInt8.toInt32)), (.int en), (.ref ba)] (fun tT kK => ?_) ?_
    · refine XS.lloadN X31_.here hx rfl (hC e26_23.2.2.1) rfl ?_
      refine X31_.ldc2Long hx hown (jm hZ hw 171 rfl) (g := (mkF mM 28 ll1 [(.long v), (.int en), (.ref ba)])) rfl (hC e26_23.2.2.2) _ ?_
      refine XS.land X31_.here hx rfl (hC e26_31.1) rfl ?_
      refine X31_.ldc2Long hx hown (jm hZ hw 172 rfl) (g := (mkF mM 32 ll1 [(.long (v &&& (127 : Int64))), (.int en), (.ref ba)])) rfl (hC e26_31.2.1) _ ?_
      refine XS.lor X31_.here hx rfl (hC e26_31.2.2.1) rfl ?_
      refine XS.l2i X31_.here hx rfl (hC e26_31.2.2.2) rfl ?_
      refine XS.i2b X31_.here hx rfl (hC e26_37.1) rfl ?_
      exact kK
    obtain ⟨cl43_, Ar43_, qk43_, Sz43_, Nn43_, Hh43_, Gg43_⟩ := id fc42_
    have hin44_ : ¬ (en < 0 ∨ cl43_.slots.size ≤ (en).toNatClampNeg) := inb_of Sz43_ (own_pl (by omega))
    obtain ⟨T44_, h44_, X44_, e44_, W44_, st44_⟩ := stB X31_ hx hZ e31_ Ar43_ (j := en) hin44_ (g := (mkF mM 38 ll1 [(.int ((((v &&& (127 : Int64)) ||| (128 : Int64)).toInt32).toInt8.toInt32)), (.int en), (.ref ba)])) rfl rfl (hC e26_37.2.1)
    have V44_ : Arv Z h44_ ba kb .byte (28 : Int32) (vs.set (en).toNatClampNeg (.int (nar .byte ((((v &&& (127 : Int64)) ||| (128 : Int64)).toInt32).toInt8.toInt32)))) (.int (0 : Int32)) := Arv.set Ar43_ qk43_ Sz43_ Nn43_ Hh43_ Gg43_ (fits_nar_byte _) W44_ _ rfl (own_pn (by omega) (by first | exact hl | (simp only [List.length_set]; exact hl)))
    have fc45_ := fc32_.wr W44_
    have fc46_ := fc33_.other W44_ (Or.inl ne_a_ba)
    have fc47_ := fc34_.other W44_ (Or.inl ne_a_ba)
    have fc48_ := fc35_.other W44_ (Or.inl ne_a_ba)
    have fc49_ := fc36_.other W44_ (Or.inl ne_a_ba)
    have fc50_ := fc37_.other W44_ (Or.inl ne_a_ba)
    have fc51_ := Fw31_.other W44_ (Or.inl ne_a_ba)
    have fc52_ := fc38_.other W44_ (Or.inl ne_a_ba)
    have fc53_ := fc39_.other W44_ (Or.inl ne_a_ba)
    have fc54_ := fc40_.other W44_ (Or.inl ne_a_ba)
    have fc55_ := fc41_.other W44_ (Or.inl ne_a_ba)
    have K44_ := K31_.wr W44_ (Or.inl (List.mem_of_getElem? (i := 1) rfl))
    have N44_ := Fr.snoc X44_ N31_ g_ba
    refine own_fin st44_ ?_
    let ll2 : Array Slot := #[vR a, vJ v, vS, vJ ((v.toUInt64 >>> ((7 : Int32) &&& 0x3f).toInt64.toUInt64).toInt64), vS]
    refine jg T44_ mM 44 ll2 [] (fun tT kK => ?_) ?_
    · refine XS.lloadN X44_.here hx rfl (hC e26_37.2.2.1) rfl ?_
      refine XS.bipush X44_.here hx rfl (hC e26_37.2.2.2) ?_
      refine XS.lushr X44_.here hx rfl (hC e26_42.1) rfl ?_
      refine XS.lstoreN X44_.here hx rfl (hC e26_42.2.1) rfl (l' := ll2) rfl ?_
      exact kK
    have s0 := own_sh7 (x := v) (by omega)
    refine jg T44_ mM 9 ll2 [(.int (lcmpW (((v.toUInt64 >>> ((7 : Int32) &&& 0x3f).toInt64.toUInt64).toInt64) &&& (-128 : Int64)) (0 : Int64)))] (fun tT kK => ?_) ?_
    · refine XS.goto X44_.here hx rfl (pc0 := 44) (pc' := 2) rfl (hC e26_42.2.2) (by decide) (by decide) ?_
      refine XS.lloadN X44_.here hx rfl (hC e26_0.2.2.1) rfl ?_
      refine X44_.ldc2Long hx hown (jm hZ hw 170 rfl) (g := (mkF mM 3 ll2 [(.long ((v.toUInt64 >>> ((7 : Int32) &&& 0x3f).toInt64.toUInt64).toInt64))])) rfl (hC e26_0.2.2.2) _ ?_
      refine XS.land X44_.here hx rfl (hC e26_6.1) rfl ?_
      refine XS.lconst X44_.here hx rfl (hC e26_6.2.1) ?_
      refine XS.lcmp X44_.here hx rfl (hC e26_6.2.2.1) rfl ?_
      exact kK
    by_cases hc9_56_ : (((v.toUInt64 >>> ((7 : Int32) &&& 0x3f).toInt64.toUInt64).toInt64) &&& (-128 : Int64)) = (0 : Int64)
    · refine jg T44_ mM 48 ll2 [(.ref a)] (fun tT kK => ?_) ?_
      · refine XS.ifYes X44_.here hx rfl (pc0 := 9) (pc' := 47) rfl (hC e26_6.2.2.2) rfl ((if0 _ _).trans (teq ((lw_eq (((v.toUInt64 >>> ((7 : Int32) &&& 0x3f).toInt64.toUInt64).toInt64) &&& (-128 : Int64)) (0 : Int64)).mpr (hc9_56_ : (((v.toUInt64 >>> ((7 : Int32) &&& 0x3f).toInt64.toUInt64).toInt64) &&& (-128 : Int64)) = (0 : Int64)))).1) (by decide) (by decide) ?_
        refine XS.aloadN X44_.here hx rfl (hC e26_47.1) rfl rfl ?_
        exact kK
      refine jf X44_ hx hZ hown (jk hw 62 rfl) e44_ fc49_ (hC e26_47.2.1) fun T57_ X57_ e57_ => ?_
      refine jg T57_ mM 53 ll2 [(.ref a), (.ref a), (.ref ba)] (fun tT kK => ?_) ?_
      · refine XS.aloadN X57_.here hx rfl (hC e26_47.2.2.1) rfl rfl ?_
        refine XS.dup X57_.here hx rfl (hC e26_47.2.2.2) rfl rfl ?_
        exact kK
      refine jf X57_ hx hZ hown (jk hw 105 rfl) e57_ fc51_ (hC e26_53.1) fun T58_ X58_ e58_ => ?_
      refine jg T58_ mM 59 ll2 [(.int ((en + (1 : Int32)) + (1 : Int32))), (.ref a), (.int (en + (1 : Int32))), (.ref ba)] (fun tT kK => ?_) ?_
      · refine XS.dupX1 X58_.here hx rfl (hC e26_53.2.1) rfl rfl rfl ?_
        refine XS.iconst X58_.here hx rfl (hC e26_53.2.2.1) ?_
        refine XS.iadd X58_.here hx rfl (hC e26_53.2.2.2) rfl ?_
        exact kK
      refine jq X58_ hx hZ hown (jk hw 105 rfl) e58_ fc51_ fc45_ (jk hw 106 rfl) (jk hw 54 rfl) (ty := .int) (by decide) rfl rfl (hC d26_59) K44_ N44_ (Or.inl (List.mem_of_getElem? (i := 0) rfl)) g_a fun T59_ h59_ X59_ e59_ W59_ Fw59_ K59_ N59_ => ?_
      have fc60_ := fc45_.wr W59_
      have fc61_ := fc46_.other W59_ (Or.inr (js23 hw))
      have fc62_ := fc47_.other W59_ (Or.inr (js24 hw))
      have fc63_ := fc48_.other W59_ (Or.inr (js25 hw))
      have fc64_ := fc49_.other W59_ (Or.inr (js9 hw).symm)
      have fc65_ := fc50_.other W59_ (Or.inr (js26 hw))
      have fc66_ := fc52_.other W59_ (Or.inr (js18 hw).symm)
      have fc67_ := fc53_.other W59_ (Or.inr (js27 hw))
      have fc68_ := fc54_.other W59_ (Or.inr (js28 hw))
      have fc69_ := fc55_.other W59_ (Or.inr (js29 hw))
      have fc70_ := V44_.other W59_ (Ne.symm ne_a_ba)
      refine jg T59_ mM 65 ll2 [(.int ((((v.toUInt64 >>> ((7 : Int32) &&& 0x3f).toInt64.toUInt64).toInt64).toInt32).toInt8.toInt32)), (.int (en + (1 : Int32))), (.ref ba)] (fun tT kK => ?_) ?_
      · refine XS.lloadN X59_.here hx rfl (hC e26_62.1) rfl ?_
        refine XS.l2i X59_.here hx rfl (hC e26_62.2.1) rfl ?_
        show Steps pP.tables eE below (T59_.setTop (mkF mM 64 ll2 [(.int (((v.toUInt64 >>> ((7 : Int32) &&& 0x3f).toInt64.toUInt64).toInt64).toInt32)), (.int (en + (1 : Int32))), (.ref ba)])) tT
        refine XS.i2b X59_.here hx rfl (hC e26_62.2.2.1) rfl ?_
        exact kK
      obtain ⟨cl71_, Ar71_, qk71_, Sz71_, Nn71_, Hh71_, Gg71_⟩ := id fc70_
      have hin72_ : ¬ ((en + (1 : Int32)) < 0 ∨ cl71_.slots.size ≤ ((en + (1 : Int32))).toNatClampNeg) := inb_of Sz71_ (own_pl (by omega))
      obtain ⟨T72_, h72_, X72_, e72_, W72_, st72_⟩ := stB X59_ hx hZ e59_ Ar71_ (j := (en + (1 : Int32))) hin72_ (g := (mkF mM 65 ll2 [(.int ((((v.toUInt64 >>> ((7 : Int32) &&& 0x3f).toInt64.toUInt64).toInt64).toInt32).toInt8.toInt32)), (.int (en + (1 : Int32))), (.ref ba)])) rfl rfl (hC e26_62.2.2.2)
      have V72_ : Arv Z h72_ ba kb .byte (28 : Int32) ((vs.set (en).toNatClampNeg (.int (nar .byte ((((v &&& (127 : Int64)) ||| (128 : Int64)).toInt32).toInt8.toInt32)))).set ((en + (1 : Int32))).toNatClampNeg (.int (nar .byte ((((v.toUInt64 >>> ((7 : Int32) &&& 0x3f).toInt64.toUInt64).toInt64).toInt32).toInt8.toInt32)))) (.int (0 : Int32)) := Arv.set Ar71_ qk71_ Sz71_ Nn71_ Hh71_ Gg71_ (fits_nar_byte _) W72_ _ rfl (own_pn (by omega) (by first | exact hl | (simp only [List.length_set]; exact hl)))
      have fc73_ := fc60_.wr W72_
      have fc74_ := fc61_.other W72_ (Or.inl ne_a_ba)
      have fc75_ := fc62_.other W72_ (Or.inl ne_a_ba)
      have fc76_ := fc63_.other W72_ (Or.inl ne_a_ba)
      have fc77_ := fc64_.other W72_ (Or.inl ne_a_ba)
      have fc78_ := fc65_.other W72_ (Or.inl ne_a_ba)
      have fc79_ := Fw59_.other W72_ (Or.inl ne_a_ba)
      have fc80_ := fc66_.other W72_ (Or.inl ne_a_ba)
      have fc81_ := fc67_.other W72_ (Or.inl ne_a_ba)
      have fc82_ := fc68_.other W72_ (Or.inl ne_a_ba)
      have fc83_ := fc69_.other W72_ (Or.inl ne_a_ba)
      have K72_ := K59_.wr W72_ (Or.inl (List.mem_of_getElem? (i := 1) rfl))
      have N72_ := Fr.snoc X72_ N59_ g_ba
      refine own_fin st72_ ?_
      exact own_rV X72_ hx hlk hre (hC e26_66.1) e72_ (by decide) (by decide) ⟨((en + (1 : Int32)) + (1 : Int32)), ((vs.set (en).toNatClampNeg (.int (nar .byte ((((v &&& (127 : Int64)) ||| (128 : Int64)).toInt32).toInt8.toInt32)))).set ((en + (1 : Int32))).toNatClampNeg (.int (nar .byte ((((v.toUInt64 >>> ((7 : Int32) &&& 0x3f).toInt64.toUInt64).toInt64).toInt32).toInt8.toInt32)))), rfl, N72_, K72_, by first | exact hl | (simp only [List.length_set]; exact hl), by omega, fc73_, fc74_, fc75_, fc76_, fc77_, fc78_, fc79_, fc80_, fc81_, fc82_, fc83_, V72_⟩
    · refine jg T44_ mM 13 ll2 [(.ref a)] (fun tT kK => ?_) ?_
      · refine XS.ifNo X44_.here hx rfl (hC e26_6.2.2.2) rfl ((if0 _ _).trans (feq (mt (lw_eq (((v.toUInt64 >>> ((7 : Int32) &&& 0x3f).toInt64.toUInt64).toInt64) &&& (-128 : Int64)) (0 : Int64)).mp (hc9_56_ : ¬ ((((v.toUInt64 >>> ((7 : Int32) &&& 0x3f).toInt64.toUInt64).toInt64) &&& (-128 : Int64)) = (0 : Int64))))).1) ?_
        refine XS.aloadN X44_.here hx rfl (hC e26_66.2.1) rfl rfl ?_
        exact kK
      refine jf X44_ hx hZ hown (jk hw 62 rfl) e44_ fc49_ (hC e26_66.2.2.1) fun T84_ X84_ e84_ => ?_
      refine jg T84_ mM 18 ll2 [(.ref a), (.ref a), (.ref ba)] (fun tT kK => ?_) ?_
      · refine XS.aloadN X84_.here hx rfl (hC e26_66.2.2.2) rfl rfl ?_
        refine XS.dup X84_.here hx rfl (hC e26_17.1) rfl rfl ?_
        exact kK
      refine jf X84_ hx hZ hown (jk hw 105 rfl) e84_ fc51_ (hC e26_17.2.1) fun T85_ X85_ e85_ => ?_
      refine jg T85_ mM 24 ll2 [(.int ((en + (1 : Int32)) + (1 : Int32))), (.ref a), (.int (en + (1 : Int32))), (.ref ba)] (fun tT kK => ?_) ?_
      · refine XS.dupX1 X85_.here hx rfl (hC e26_17.2.2.1) rfl rfl rfl ?_
        refine XS.iconst X85_.here hx rfl (hC e26_17.2.2.2) ?_
        refine XS.iadd X85_.here hx rfl (hC e26_23.1) rfl ?_
        exact kK
      refine jq X85_ hx hZ hown (jk hw 105 rfl) e85_ fc51_ fc45_ (jk hw 106 rfl) (jk hw 54 rfl) (ty := .int) (by decide) rfl rfl (hC e26_23.2.1) K44_ N44_ (Or.inl (List.mem_of_getElem? (i := 0) rfl)) g_a fun T86_ h86_ X86_ e86_ W86_ Fw86_ K86_ N86_ => ?_
      have fc87_ := fc45_.wr W86_
      have fc88_ := fc46_.other W86_ (Or.inr (js23 hw))
      have fc89_ := fc47_.other W86_ (Or.inr (js24 hw))
      have fc90_ := fc48_.other W86_ (Or.inr (js25 hw))
      have fc91_ := fc49_.other W86_ (Or.inr (js9 hw).symm)
      have fc92_ := fc50_.other W86_ (Or.inr (js26 hw))
      have fc93_ := fc52_.other W86_ (Or.inr (js18 hw).symm)
      have fc94_ := fc53_.other W86_ (Or.inr (js27 hw))
      have fc95_ := fc54_.other W86_ (Or.inr (js28 hw))
      have fc96_ := fc55_.other W86_ (Or.inr (js29 hw))
      have fc97_ := V44_.other W86_ (Ne.symm ne_a_ba)
      refine jg T86_ mM 38 ll2 [(.int ((((((v.toUInt64 >>> ((7 : Int32) &&& 0x3f).toInt64.toUInt64).toInt64) &&& (127 : Int64)) ||| (128 : Int64)).toInt32).toInt8.toInt32)), (.int (en + (1 : Int32))), (.ref ba)] (fun tT kK => ?_) ?_
      · refine XS.lloadN X86_.here hx rfl (hC e26_23.2.2.1) rfl ?_
        refine X86_.ldc2Long hx hown (jm hZ hw 171 rfl) (g := (mkF mM 28 ll2 [(.long ((v.toUInt64 >>> ((7 : Int32) &&& 0x3f).toInt64.toUInt64).toInt64)), (.int (en + (1 : Int32))), (.ref ba)])) rfl (hC e26_23.2.2.2) _ ?_
        show Steps pP.tables eE below (T86_.setTop (mkF mM 31 ll2 [(.long (127 : Int64)), (.long ((v.toUInt64 >>> ((7 : Int32) &&& 0x3f).toInt64.toUInt64).toInt64)), (.int (en + (1 : Int32))), (.ref ba)])) tT
        refine XS.land X86_.here hx rfl (hC e26_31.1) rfl ?_
        refine X86_.ldc2Long hx hown (jm hZ hw 172 rfl) (g := (mkF mM 32 ll2 [(.long (((v.toUInt64 >>> ((7 : Int32) &&& 0x3f).toInt64.toUInt64).toInt64) &&& (127 : Int64))), (.int (en + (1 : Int32))), (.ref ba)])) rfl (hC e26_31.2.1) _ ?_
        refine XS.lor X86_.here hx rfl (hC e26_31.2.2.1) rfl ?_
        refine XS.l2i X86_.here hx rfl (hC e26_31.2.2.2) rfl ?_
        refine XS.i2b X86_.here hx rfl (hC e26_37.1) rfl ?_
        exact kK
      obtain ⟨cl98_, Ar98_, qk98_, Sz98_, Nn98_, Hh98_, Gg98_⟩ := id fc97_
      have hin99_ : ¬ ((en + (1 : Int32)) < 0 ∨ cl98_.slots.size ≤ ((en + (1 : Int32))).toNatClampNeg) := inb_of Sz98_ (own_pl (by omega))
      obtain ⟨T99_, h99_, X99_, e99_, W99_, st99_⟩ := stB X86_ hx hZ e86_ Ar98_ (j := (en + (1 : Int32))) hin99_ (g := (mkF mM 38 ll2 [(.int ((((((v.toUInt64 >>> ((7 : Int32) &&& 0x3f).toInt64.toUInt64).toInt64) &&& (127 : Int64)) ||| (128 : Int64)).toInt32).toInt8.toInt32)), (.int (en + (1 : Int32))), (.ref ba)])) rfl rfl (hC e26_37.2.1)
      have V99_ : Arv Z h99_ ba kb .byte (28 : Int32) ((vs.set (en).toNatClampNeg (.int (nar .byte ((((v &&& (127 : Int64)) ||| (128 : Int64)).toInt32).toInt8.toInt32)))).set ((en + (1 : Int32))).toNatClampNeg (.int (nar .byte ((((((v.toUInt64 >>> ((7 : Int32) &&& 0x3f).toInt64.toUInt64).toInt64) &&& (127 : Int64)) ||| (128 : Int64)).toInt32).toInt8.toInt32)))) (.int (0 : Int32)) := Arv.set Ar98_ qk98_ Sz98_ Nn98_ Hh98_ Gg98_ (fits_nar_byte _) W99_ _ rfl (own_pn (by omega) (by first | exact hl | (simp only [List.length_set]; exact hl)))
      have fc100_ := fc87_.wr W99_
      have fc101_ := fc88_.other W99_ (Or.inl ne_a_ba)
      have fc102_ := fc89_.other W99_ (Or.inl ne_a_ba)
      have fc103_ := fc90_.other W99_ (Or.inl ne_a_ba)
      have fc104_ := fc91_.other W99_ (Or.inl ne_a_ba)
      have fc105_ := fc92_.other W99_ (Or.inl ne_a_ba)
      have fc106_ := Fw86_.other W99_ (Or.inl ne_a_ba)
      have fc107_ := fc93_.other W99_ (Or.inl ne_a_ba)
      have fc108_ := fc94_.other W99_ (Or.inl ne_a_ba)
      have fc109_ := fc95_.other W99_ (Or.inl ne_a_ba)
      have fc110_ := fc96_.other W99_ (Or.inl ne_a_ba)
      have K99_ := K86_.wr W99_ (Or.inl (List.mem_of_getElem? (i := 1) rfl))
      have N99_ := Fr.snoc X99_ N86_ g_ba
      refine own_fin st99_ ?_
      let ll3 : Array Slot := #[vR a, vJ v, vS, vJ ((((v.toUInt64 >>> ((7 : Int32) &&& 0x3f).toInt64.toUInt64).toInt64).toUInt64 >>> ((7 : Int32) &&& 0x3f).toInt64.toUInt64).toInt64), vS]
      refine jg T99_ mM 44 ll3 [] (fun tT kK => ?_) ?_
      · refine XS.lloadN X99_.here hx rfl (hC e26_37.2.2.1) rfl ?_
        refine XS.bipush X99_.here hx rfl (hC e26_37.2.2.2) ?_
        refine XS.lushr X99_.here hx rfl (hC e26_42.1) rfl ?_
        refine XS.lstoreN X99_.here hx rfl (hC e26_42.2.1) rfl (l' := ll3) rfl ?_
        exact kK
      have s1 := own_sh7 (x := ((v.toUInt64 >>> ((7 : Int32) &&& 0x3f).toInt64.toUInt64).toInt64)) (by omega)
      refine jg T99_ mM 48 ll3 [(.ref a)] (fun tT kK => ?_) ?_
      · refine XS.goto X99_.here hx rfl (pc0 := 44) (pc' := 2) rfl (hC e26_42.2.2) (by decide) (by decide) ?_
        refine XS.lloadN X99_.here hx rfl (hC e26_0.2.2.1) rfl ?_
        refine X99_.ldc2Long hx hown (jm hZ hw 170 rfl) (g := (mkF mM 3 ll3 [(.long ((((v.toUInt64 >>> ((7 : Int32) &&& 0x3f).toInt64.toUInt64).toInt64).toUInt64 >>> ((7 : Int32) &&& 0x3f).toInt64.toUInt64).toInt64))])) rfl (hC e26_0.2.2.2) _ ?_
        refine XS.land X99_.here hx rfl (hC e26_6.1) rfl ?_
        refine XS.lconst X99_.here hx rfl (hC e26_6.2.1) ?_
        refine XS.lcmp X99_.here hx rfl (hC e26_6.2.2.1) rfl ?_
        refine XS.ifYes X99_.here hx rfl (pc0 := 9) (pc' := 47) rfl (hC e26_6.2.2.2) rfl ((if0 _ _).trans (teq ((lw_eq (((((v.toUInt64 >>> ((7 : Int32) &&& 0x3f).toInt64.toUInt64).toInt64).toUInt64 >>> ((7 : Int32) &&& 0x3f).toInt64.toUInt64).toInt64) &&& (-128 : Int64)) (0 : Int64)).mpr (own_low (by omega) : (((((v.toUInt64 >>> ((7 : Int32) &&& 0x3f).toInt64.toUInt64).toInt64).toUInt64 >>> ((7 : Int32) &&& 0x3f).toInt64.toUInt64).toInt64) &&& (-128 : Int64)) = (0 : Int64)))).1) (by decide) (by decide) ?_
        refine XS.aloadN X99_.here hx rfl (hC e26_47.1) rfl rfl ?_
        exact kK
      refine jf X99_ hx hZ hown (jk hw 62 rfl) e99_ fc104_ (hC e26_47.2.1) fun T111_ X111_ e111_ => ?_
      refine jg T111_ mM 53 ll3 [(.ref a), (.ref a), (.ref ba)] (fun tT kK => ?_) ?_
      · refine XS.aloadN X111_.here hx rfl (hC e26_47.2.2.1) rfl rfl ?_
        refine XS.dup X111_.here hx rfl (hC e26_47.2.2.2) rfl rfl ?_
        exact kK
      refine jf X111_ hx hZ hown (jk hw 105 rfl) e111_ fc106_ (hC e26_53.1) fun T112_ X112_ e112_ => ?_
      refine jg T112_ mM 59 ll3 [(.int (((en + (1 : Int32)) + (1 : Int32)) + (1 : Int32))), (.ref a), (.int ((en + (1 : Int32)) + (1 : Int32))), (.ref ba)] (fun tT kK => ?_) ?_
      · refine XS.dupX1 X112_.here hx rfl (hC e26_53.2.1) rfl rfl rfl ?_
        refine XS.iconst X112_.here hx rfl (hC e26_53.2.2.1) ?_
        refine XS.iadd X112_.here hx rfl (hC e26_53.2.2.2) rfl ?_
        exact kK
      refine jq X112_ hx hZ hown (jk hw 105 rfl) e112_ fc106_ fc100_ (jk hw 106 rfl) (jk hw 54 rfl) (ty := .int) (by decide) rfl rfl (hC d26_59) K99_ N99_ (Or.inl (List.mem_of_getElem? (i := 0) rfl)) g_a fun T113_ h113_ X113_ e113_ W113_ Fw113_ K113_ N113_ => ?_
      have fc114_ := fc100_.wr W113_
      have fc115_ := fc101_.other W113_ (Or.inr (js23 hw))
      have fc116_ := fc102_.other W113_ (Or.inr (js24 hw))
      have fc117_ := fc103_.other W113_ (Or.inr (js25 hw))
      have fc118_ := fc104_.other W113_ (Or.inr (js9 hw).symm)
      have fc119_ := fc105_.other W113_ (Or.inr (js26 hw))
      have fc120_ := fc107_.other W113_ (Or.inr (js18 hw).symm)
      have fc121_ := fc108_.other W113_ (Or.inr (js27 hw))
      have fc122_ := fc109_.other W113_ (Or.inr (js28 hw))
      have fc123_ := fc110_.other W113_ (Or.inr (js29 hw))
      have fc124_ := V99_.other W113_ (Ne.symm ne_a_ba)
      refine jg T113_ mM 65 ll3 [(.int ((((((v.toUInt64 >>> ((7 : Int32) &&& 0x3f).toInt64.toUInt64).toInt64).toUInt64 >>> ((7 : Int32) &&& 0x3f).toInt64.toUInt64).toInt64).toInt32).toInt8.toInt32)), (.int ((en + (1 : Int32)) + (1 : Int32))), (.ref ba)] (fun tT kK => ?_) ?_
      · refine XS.lloadN X113_.here hx rfl (hC e26_62.1) rfl ?_
        refine XS.l2i X113_.here hx rfl (hC e26_62.2.1) rfl ?_
        refine XS.i2b X113_.here hx rfl (hC e26_62.2.2.1) rfl ?_
        exact kK
      obtain ⟨cl125_, Ar125_, qk125_, Sz125_, Nn125_, Hh125_, Gg125_⟩ := id fc124_
      have hin126_ : ¬ (((en + (1 : Int32)) + (1 : Int32)) < 0 ∨ cl125_.slots.size ≤ (((en + (1 : Int32)) + (1 : Int32))).toNatClampNeg) := inb_of Sz125_ (own_pl (by omega))
      obtain ⟨T126_, h126_, X126_, e126_, W126_, st126_⟩ := stB X113_ hx hZ e113_ Ar125_ (j := ((en + (1 : Int32)) + (1 : Int32))) hin126_ (g := (mkF mM 65 ll3 [(.int ((((((v.toUInt64 >>> ((7 : Int32) &&& 0x3f).toInt64.toUInt64).toInt64).toUInt64 >>> ((7 : Int32) &&& 0x3f).toInt64.toUInt64).toInt64).toInt32).toInt8.toInt32)), (.int ((en + (1 : Int32)) + (1 : Int32))), (.ref ba)])) rfl rfl (hC e26_62.2.2.2)
      have V126_ : Arv Z h126_ ba kb .byte (28 : Int32) (((vs.set (en).toNatClampNeg (.int (nar .byte ((((v &&& (127 : Int64)) ||| (128 : Int64)).toInt32).toInt8.toInt32)))).set ((en + (1 : Int32))).toNatClampNeg (.int (nar .byte ((((((v.toUInt64 >>> ((7 : Int32) &&& 0x3f).toInt64.toUInt64).toInt64) &&& (127 : Int64)) ||| (128 : Int64)).toInt32).toInt8.toInt32)))).set (((en + (1 : Int32)) + (1 : Int32))).toNatClampNeg (.int (nar .byte ((((((v.toUInt64 >>> ((7 : Int32) &&& 0x3f).toInt64.toUInt64).toInt64).toUInt64 >>> ((7 : Int32) &&& 0x3f).toInt64.toUInt64).toInt64).toInt32).toInt8.toInt32)))) (.int (0 : Int32)) := Arv.set Ar125_ qk125_ Sz125_ Nn125_ Hh125_ Gg125_ (fits_nar_byte _) W126_ _ rfl (own_pn (by omega) (by first | exact hl | (simp only [List.length_set]; exact hl)))
      have fc127_ := fc114_.wr W126_
      have fc128_ := fc115_.other W126_ (Or.inl ne_a_ba)
      have fc129_ := fc116_.other W126_ (Or.inl ne_a_ba)
      have fc130_ := fc117_.other W126_ (Or.inl ne_a_ba)
      have fc131_ := fc118_.other W126_ (Or.inl ne_a_ba)
      have fc132_ := fc119_.other W126_ (Or.inl ne_a_ba)
      have fc133_ := Fw113_.other W126_ (Or.inl ne_a_ba)
      have fc134_ := fc120_.other W126_ (Or.inl ne_a_ba)
      have fc135_ := fc121_.other W126_ (Or.inl ne_a_ba)
      have fc136_ := fc122_.other W126_ (Or.inl ne_a_ba)
      have fc137_ := fc123_.other W126_ (Or.inl ne_a_ba)
      have K126_ := K113_.wr W126_ (Or.inl (List.mem_of_getElem? (i := 1) rfl))
      have N126_ := Fr.snoc X126_ N113_ g_ba
      refine own_fin st126_ ?_
      exact own_rV X126_ hx hlk hre (hC e26_66.1) e126_ (by decide) (by decide) ⟨(((en + (1 : Int32)) + (1 : Int32)) + (1 : Int32)), (((vs.set (en).toNatClampNeg (.int (nar .byte ((((v &&& (127 : Int64)) ||| (128 : Int64)).toInt32).toInt8.toInt32)))).set ((en + (1 : Int32))).toNatClampNeg (.int (nar .byte ((((((v.toUInt64 >>> ((7 : Int32) &&& 0x3f).toInt64.toUInt64).toInt64) &&& (127 : Int64)) ||| (128 : Int64)).toInt32).toInt8.toInt32)))).set (((en + (1 : Int32)) + (1 : Int32))).toNatClampNeg (.int (nar .byte ((((((v.toUInt64 >>> ((7 : Int32) &&& 0x3f).toInt64.toUInt64).toInt64).toUInt64 >>> ((7 : Int32) &&& 0x3f).toInt64.toUInt64).toInt64).toInt32).toInt8.toInt32)))), rfl, N126_, K126_, by first | exact hl | (simp only [List.length_set]; exact hl), by omega, fc127_, fc128_, fc129_, fc130_, fc131_, fc132_, fc133_, fc134_, fc135_, fc136_, fc137_, V126_⟩
theorem e19_0 : jD10 0 (.aload_n 0, 1) ∧ jD10 1 (.aload_n 0, 1) ∧ jD10 2 (.getfield 35, 3) ∧ jD10 5 (.putfield 18, 3) := by decide +kernel
theorem e19_8 : jD10 8 (.aload_n 0, 1) ∧ jD10 9 (.getfield 32, 3) ∧ jD10 12 (.aload_n 0, 1) ∧ jD10 13 (.getfield 26, 3) := by decide +kernel
theorem e19_16 : jD10 16 (.lsub, 1) ∧ jD10 17 (.lstore_n 1, 1) ∧ jD10 18 (.aload_n 0, 1) ∧ jD10 19 (.getfield 52, 3) := by decide +kernel
theorem e19_22 : jD10 22 (.ldc2_w 136, 3) ∧ jD10 25 (.lcmp, 1) ∧ jD10 26 (.ifCond .gt 44, 3) ∧ jD10 70 (.aload_n 0, 1) := by decide +kernel
theorem e19_71 : jD10 71 (.getfield 52, 3) ∧ jD10 74 (.lconst 1, 1) ∧ jD10 75 (.lsub, 1) ∧ jD10 76 (.lstore_n 3, 1) := by decide +kernel
theorem e19_77 : jD10 77 (.lload_n 3, 1) ∧ jD10 78 (.bipush 6, 2) ∧ jD10 80 (.lushr, 1) ∧ jD10 81 (.lstore 5, 2) := by decide +kernel
theorem e19_83 : jD10 83 (.sipush 128, 3) ∧ jD10 86 (.lload_n 3, 1) ∧ jD10 87 (.ldc2_w 140, 3) ∧ jD10 90 (.land, 1) := by decide +kernel
theorem e19_91 : jD10 91 (.l2i, 1) ∧ jD10 92 (.ior, 1) ∧ jD10 93 (.istore 7, 2) ∧ jD10 95 (.lload 5, 2) := by decide +kernel
theorem e19_97 : jD10 97 (.lconst 0, 1) ∧ jD10 98 (.lcmp, 1) ∧ jD10 99 (.ifCond .ne 25, 3) ∧ jD10 102 (.aload_n 0, 1) := by decide +kernel
theorem e19_103 : jD10 103 (.getfield 13, 3) ∧ jD10 106 (.aload_n 0, 1) ∧ jD10 107 (.dup, 1) ∧ jD10 108 (.getfield 35, 3) := by decide +kernel
theorem e19_111 : jD10 111 (.dup_x1, 1) ∧ jD10 112 (.iconst 1, 1) ∧ jD10 113 (.iadd, 1) ∧ jD10 114 (.putfield 35, 3) := by decide +kernel
theorem e19_117 : jD10 117 (.iload 7, 2) ∧ jD10 119 (.i2b, 1) ∧ jD10 120 (.bastore, 1) ∧ jD10 121 (.goto 31, 3) := by decide +kernel
theorem e19_152 : jD10 152 (.aload_n 0, 1) ∧ jD10 153 (.lload_n 1, 1) ∧ jD10 154 (.lconst 1, 1) ∧ jD10 155 (.lsub, 1) := by decide +kernel
theorem d19_156 : jD10 156 (.invokevirtual 142, 3) := by decide +kernel
theorem own_pd0 : parseMethodDescriptor "(J)V" = some ⟨[.long], none⟩ := by decide +kernel
theorem e19_159 : jD10 159 (.return_, 1) ∧ jD10 124 (.aload_n 0, 1) ∧ jD10 125 (.getfield 13, 3) ∧ jD10 128 (.aload_n 0, 1) := by decide +kernel
theorem e19_129 : jD10 129 (.dup, 1) ∧ jD10 130 (.getfield 35, 3) ∧ jD10 133 (.dup_x1, 1) ∧ jD10 134 (.iconst 1, 1) := by decide +kernel
theorem e19_135 : jD10 135 (.iadd, 1) ∧ jD10 136 (.putfield 35, 3) ∧ jD10 139 (.iload 7, 2) ∧ jD10 141 (.bipush 64, 2) := by decide +kernel
theorem e19_143 : jD10 143 (.ior, 1) ∧ jD10 144 (.i2b, 1) ∧ jD10 145 (.bastore, 1) ∧ jD10 146 (.aload_n 0, 1) := by decide +kernel
theorem e19_147 : jD10 147 (.lload 5, 2) ∧ jD10 149 (.invokevirtual 142, 3) ∧ jD10 29 (.lload_n 1, 1) ∧ jD10 30 (.ldc2_w 138, 3) := by decide +kernel
theorem e19_33 : jD10 33 (.lcmp, 1) ∧ jD10 34 (.ifCond .gt 36, 3) ∧ jD10 37 (.aload_n 0, 1) ∧ jD10 38 (.getfield 13, 3) := by decide +kernel
theorem e19_41 : jD10 41 (.aload_n 0, 1) ∧ jD10 42 (.dup, 1) ∧ jD10 43 (.getfield 35, 3) ∧ jD10 46 (.dup_x1, 1) := by decide +kernel
theorem e19_47 : jD10 47 (.iconst 1, 1) ∧ jD10 48 (.iadd, 1) ∧ jD10 49 (.putfield 35, 3) ∧ jD10 52 (.aload_n 0, 1) := by decide +kernel
theorem e19_53 : jD10 53 (.getfield 52, 3) ∧ jD10 56 (.lconst 1, 1) ∧ jD10 57 (.lsub, 1) ∧ jD10 58 (.iconst 3, 1) := by decide +kernel
theorem e19_59 : jD10 59 (.lshl, 1) ∧ jD10 60 (.lload_n 1, 1) ∧ jD10 61 (.lconst 1, 1) ∧ jD10 62 (.lsub, 1) := by decide +kernel
theorem e19_63 : jD10 63 (.lor, 1) ∧ jD10 64 (.l2i, 1) ∧ jD10 65 (.i2b, 1) ∧ jD10 66 (.bastore, 1) := by decide +kernel
theorem d19_67 : jD10 67 (.goto 92, 3) := by decide +kernel
theorem own_ef_rm_wl (mM : MethodId) (x0 : Addr) : entryFrame mM #[(.ref x0)] 8 = mkF mM 0 #[.val (.ref x0), .unset, .unset, .unset, .unset, .unset, .unset, .unset] [] := by first | (simp [entryFrame, mkF, argsToLocals, Value.category]; done) | rfl
def Q_rm_wl (Z : State) (a : Addr) (ba : Addr) (kb : ClassId) (sz : Int64) (ff : Int64) (ft : Int64) (lg : Int64) (lf : Int64) (lt : Int64) (en : Int32) (la : Int32) (vs : List Value) (h0 : Heap) (n0 : Nat) (vV : Option Value) (hH : Heap) (lA : List Loc) : Prop := ∃ en' : Int32, ∃ vs' : List Value, vV = none ∧ Fr n0 lA ∧ (Keep h0 hH [a, ba]) ∧ (vs'.length = 28) ∧ (en.toInt < en'.toInt ∧ en'.toInt ≤ en.toInt + 7) ∧ (jE1 Z hH a) ∧ (jF11 Z hH a (.long sz)) ∧ (jF2 Z hH a (.long ff)) ∧ (jF4 Z hH a (.long ft)) ∧ (jF12 Z hH a (.ref ba)) ∧ (jF8 Z hH a (.int (0 : Int32))) ∧ (jF7 Z hH a (.int en')) ∧ (jF3 Z hH a (.int en)) ∧ (jF13 Z hH a (.long lg)) ∧ (jF6 Z hH a (.long lf)) ∧ (jF5 Z hH a (.long lt)) ∧ (Arv Z hH ba kb .byte (28 : Int32) vs' (.int (0 : Int32)))
set_option maxRecDepth 65536 in
set_option maxHeartbeats 40000000 in
theorem rm_wl (lL : Launch) (Z : State) (a0 : Array Value) (hw : own_H a0 Z) (ws : List Jvm.Cond) (a : Addr) (ba : Addr) (kb : ClassId) (sz : Int64) (ff : Int64) (ft : Int64) (lg : Int64) (lf : Int64) (lt : Int64) (en : Int32) (la : Int32) (vs : List Value) (h0 : Heap) (n0 : Nat) (Z0 : n0 ≤ h0.size) (F0 : jE1 Z h0 a) (F1 : jF11 Z h0 a (.long sz)) (F2 : jF2 Z h0 a (.long ff)) (F3 : jF4 Z h0 a (.long ft)) (F4 : jF12 Z h0 a (.ref ba)) (F5 : jF8 Z h0 a (.int (0 : Int32))) (F6 : jF7 Z h0 a (.int en)) (F7 : jF3 Z h0 a (.int la)) (F8 : jF13 Z h0 a (.long lg)) (F9 : jF6 Z h0 a (.long lf)) (F10 : jF5 Z h0 a (.long lt)) (Vb : Arv Z h0 ba kb .byte (28 : Int32) vs (.int (0 : Int32))) (hl : vs.length = 28) (he : 0 ≤ en.toInt ∧ en.toInt ≤ 7) (hg : 1 ≤ lg.toInt ∧ lg.toInt ≤ 16777216) (hn : 1 ≤ (lt - lf).toInt ∧ (lt - lf).toInt ≤ 4096) (g_a : n0 ≤ a) (g_ba : n0 ≤ ba) (ne_a_ba : a ≠ ba) :
    own_Met lL jy10 (Jvm.Cond.code jy10 prog_39_method_19_code 8 none :: ws) jr4 #[(.ref a)] Z h0 (Q_rm_wl Z a ba kb sz ff ft lg lf lt en la vs h0 n0) := by
  refine own_begin (plainFor_of_name own_pn_com_example_portion_portion_server_OffsetSet_Page) (fun mM => own_ef_rm_wl mM a) fun pP eE sS mM below meth cC s₁ hx hby hml hZ hown hnm hre hlk X0 e0 => ?_
  have hC := @Jvm.hb _ _ hby
  have N0 := Fr.nil n0
  have K0 := Keep.refl h0 [a, ba]
  have q1 := own_e1 (e := en) (by omega)
  have q2 := own_sub1 (g := lg) hg.1
  have q3 := own_sub1 (g := lt - lf) hn.1
  have q4 := own_sh6 (x := lg - (1 : Int64)) (by omega)
  let ll1 : Array Slot := #[vR a, vU, vU, vU, vU, vU, vU, vU]
  refine jg s₁ mM 2 ll1 [(.ref a), (.ref a)] (fun tT kK => ?_) ?_
  · refine XS.aloadN X0.here hx rfl (hC e19_0.1) rfl rfl ?_
    refine XS.aloadN X0.here hx rfl (hC e19_0.2.1) rfl rfl ?_
    exact kK
  refine jf X0 hx hZ hown (jk hw 105 rfl) e0 F6 (hC e19_0.2.2.1) fun T1_ X1_ e1_ => ?_
  refine jq X1_ hx hZ hown (jk hw 64 rfl) e1_ F7 F0 (jk hw 65 rfl) (jk hw 54 rfl) (ty := .int) (by decide) rfl rfl (hC e19_0.2.2.2) K0 N0 (Or.inl (List.mem_of_getElem? (i := 0) rfl)) g_a fun T2_ h2_ X2_ e2_ W2_ Fw2_ K2_ N2_ => ?_
  have fc3_ := F0.wr W2_
  have fc4_ := F1.other W2_ (Or.inr (js14 hw))
  have fc5_ := F2.other W2_ (Or.inr (js15 hw))
  have fc6_ := F3.other W2_ (Or.inr (js16 hw))
  have fc7_ := F4.other W2_ (Or.inr (js10 hw).symm)
  have fc8_ := F5.other W2_ (Or.inr (js17 hw))
  have fc9_ := F6.other W2_ (Or.inr (js18 hw))
  have fc10_ := F8.other W2_ (Or.inr (js19 hw))
  have fc11_ := F9.other W2_ (Or.inr (js20 hw))
  have fc12_ := F10.other W2_ (Or.inr (js21 hw))
  have fc13_ := Vb.other W2_ (Ne.symm ne_a_ba)
  refine jg T2_ mM 9 ll1 [(.ref a)] (fun tT kK => ?_) ?_
  · refine XS.aloadN X2_.here hx rfl (hC e19_8.1) rfl rfl ?_
    exact kK
  refine jf X2_ hx hZ hown (jk hw 127 rfl) e2_ fc12_ (hC e19_8.2.1) fun T14_ X14_ e14_ => ?_
  refine jg T14_ mM 13 ll1 [(.ref a), (.long lt)] (fun tT kK => ?_) ?_
  · refine XS.aloadN X14_.here hx rfl (hC e19_8.2.2.1) rfl rfl ?_
    exact kK
  refine jf X14_ hx hZ hown (jk hw 125 rfl) e14_ fc11_ (hC e19_8.2.2.2) fun T15_ X15_ e15_ => ?_
  let ll2 : Array Slot := #[vR a, vJ (lt - lf), vS, vU, vU, vU, vU, vU]
  refine jg T15_ mM 19 ll2 [(.ref a)] (fun tT kK => ?_) ?_
  · refine XS.lsub X15_.here hx rfl (hC e19_16.1) rfl ?_
    refine XS.lstoreN X15_.here hx rfl (hC e19_16.2.1) rfl (l' := ll2) rfl ?_
    refine XS.aloadN X15_.here hx rfl (hC e19_16.2.2.1) rfl rfl ?_
    exact kK
  refine jf X15_ hx hZ hown (jk hw 123 rfl) e15_ fc10_ (hC e19_16.2.2.2) fun T16_ X16_ e16_ => ?_
  refine jg T16_ mM 26 ll2 [(.int (lcmpW lg (16 : Int64)))] (fun tT kK => ?_) ?_
  · refine X16_.ldc2Long hx hown (jm hZ hw 133 rfl) (g := (mkF mM 22 ll2 [(.long lg)])) rfl (hC e19_22.1) _ ?_
    refine XS.lcmp X16_.here hx rfl (hC e19_22.2.1) rfl ?_
    exact kK
  by_cases hc26_17_ : (16 : Int64) < lg
  · refine jg T16_ mM 71 ll2 [(.ref a)] (fun tT kK => ?_) ?_
    · refine XS.ifYes X16_.here hx rfl (pc0 := 26) (pc' := 70) rfl (hC e19_22.2.2.1) rfl ((if0 _ _).trans (tlt ((lw_gt lg (16 : Int64)).mpr (hc26_17_ : (16 : Int64) < lg))).2.2.1) (by decide) (by decide) ?_
      refine XS.aloadN X16_.here hx rfl (hC e19_22.2.2.2) rfl rfl ?_
      exact kK
    refine jf X16_ hx hZ hown (jk hw 123 rfl) e16_ fc10_ (hC e19_71.1) fun T18_ X18_ e18_ => ?_
    let ll3 : Array Slot := #[vR a, vJ (lt - lf), vS, vJ (lg - (1 : Int64)), vS, vJ (((lg - (1 : Int64)).toUInt64 >>> ((6 : Int32) &&& 0x3f).toInt64.toUInt64).toInt64), vS, vI ((128 : Int32) ||| (((lg - (1 : Int64)) &&& (63 : Int64)).toInt32))]
    refine jg T18_ mM 99 ll3 [(.int (lcmpW (((lg - (1 : Int64)).toUInt64 >>> ((6 : Int32) &&& 0x3f).toInt64.toUInt64).toInt64) (0 : Int64)))] (fun tT kK => ?_) ?_
    · refine XS.lconst X18_.here hx rfl (hC e19_71.2.1) ?_
      refine XS.lsub X18_.here hx rfl (hC e19_71.2.2.1) rfl ?_
      let ll4 : Array Slot := #[vR a, vJ (lt - lf), vS, vJ (lg - (1 : Int64)), vS, vU, vU, vU]
      refine XS.lstoreN X18_.here hx rfl (hC e19_71.2.2.2) rfl (l' := ll4) rfl ?_
      refine XS.lloadN X18_.here hx rfl (hC e19_77.1) rfl ?_
      refine XS.bipush X18_.here hx rfl (hC e19_77.2.1) ?_
      refine XS.lushr X18_.here hx rfl (hC e19_77.2.2.1) rfl ?_
      let ll5 : Array Slot := #[vR a, vJ (lt - lf), vS, vJ (lg - (1 : Int64)), vS, vJ (((lg - (1 : Int64)).toUInt64 >>> ((6 : Int32) &&& 0x3f).toInt64.toUInt64).toInt64), vS, vU]
      refine XS.lstore X18_.here hx rfl (hC e19_77.2.2.2) rfl (l' := ll5) rfl ?_
      refine XS.sipush X18_.here hx rfl (hC e19_83.1) ?_
      refine XS.lloadN X18_.here hx rfl (hC e19_83.2.1) rfl ?_
      refine X18_.ldc2Long hx hown (jm hZ hw 165 rfl) (g := (mkF mM 87 ll5 [(.long (lg - (1 : Int64))), (.int (128 : Int32))])) rfl (hC e19_83.2.2.1) _ ?_
      refine XS.land X18_.here hx rfl (hC e19_83.2.2.2) rfl ?_
      refine XS.l2i X18_.here hx rfl (hC e19_91.1) rfl ?_
      refine XS.ior X18_.here hx rfl (hC e19_91.2.1) rfl ?_
      refine XS.istore X18_.here hx rfl (hC e19_91.2.2.1) rfl (l' := ll3) rfl ?_
      refine XS.lload X18_.here hx rfl (hC e19_91.2.2.2) rfl ?_
      refine XS.lconst X18_.here hx rfl (hC e19_97.1) ?_
      refine XS.lcmp X18_.here hx rfl (hC e19_97.2.1) rfl ?_
      exact kK
    by_cases hc99_19_ : (((lg - (1 : Int64)).toUInt64 >>> ((6 : Int32) &&& 0x3f).toInt64.toUInt64).toInt64) = (0 : Int64)
    · refine jg T18_ mM 103 ll3 [(.ref a)] (fun tT kK => ?_) ?_
      · refine XS.ifNo X18_.here hx rfl (hC e19_97.2.2.1) rfl ((if0 _ _).trans (teq ((lw_eq (((lg - (1 : Int64)).toUInt64 >>> ((6 : Int32) &&& 0x3f).toInt64.toUInt64).toInt64) (0 : Int64)).mpr (hc99_19_ : (((lg - (1 : Int64)).toUInt64 >>> ((6 : Int32) &&& 0x3f).toInt64.toUInt64).toInt64) = (0 : Int64)))).2) ?_
        refine XS.aloadN X18_.here hx rfl (hC e19_97.2.2.2) rfl rfl ?_
        exact kK
      refine jf X18_ hx hZ hown (jk hw 62 rfl) e18_ fc7_ (hC e19_103.1) fun T20_ X20_ e20_ => ?_
      refine jg T20_ mM 108 ll3 [(.ref a), (.ref a), (.ref ba)] (fun tT kK => ?_) ?_
      · refine XS.aloadN X20_.here hx rfl (hC e19_103.2.1) rfl rfl ?_
        refine XS.dup X20_.here hx rfl (hC e19_103.2.2.1) rfl rfl ?_
        exact kK
      refine jf X20_ hx hZ hown (jk hw 105 rfl) e20_ fc9_ (hC e19_103.2.2.2) fun T21_ X21_ e21_ => ?_
      refine jg T21_ mM 114 ll3 [(.int (en + (1 : Int32))), (.ref a), (.int en), (.ref ba)] (fun tT kK => ?_) ?_
      · refine XS.dupX1 X21_.here hx rfl (hC e19_111.1) rfl rfl rfl ?_
        refine XS.iconst X21_.here hx rfl (hC e19_111.2.1) ?_
        refine XS.iadd X21_.here hx rfl (hC e19_111.2.2.1) rfl ?_
        exact kK
      refine jq X21_ hx hZ hown (jk hw 105 rfl) e21_ fc9_ fc3_ (jk hw 106 rfl) (jk hw 54 rfl) (ty := .int) (by decide) rfl rfl (hC e19_111.2.2.2) K2_ N2_ (Or.inl (List.mem_of_getElem? (i := 0) rfl)) g_a fun T22_ h22_ X22_ e22_ W22_ Fw22_ K22_ N22_ => ?_
      have fc23_ := fc3_.wr W22_
      have fc24_ := fc4_.other W22_ (Or.inr (js23 hw))
      have fc25_ := fc5_.other W22_ (Or.inr (js24 hw))
      have fc26_ := fc6_.other W22_ (Or.inr (js25 hw))
      have fc27_ := fc7_.other W22_ (Or.inr (js9 hw).symm)
      have fc28_ := fc8_.other W22_ (Or.inr (js26 hw))
      have fc29_ := Fw2_.other W22_ (Or.inr (js18 hw).symm)
      have fc30_ := fc10_.other W22_ (Or.inr (js27 hw))
      have fc31_ := fc11_.other W22_ (Or.inr (js28 hw))
      have fc32_ := fc12_.other W22_ (Or.inr (js29 hw))
      have fc33_ := fc13_.other W22_ (Ne.symm ne_a_ba)
      refine jg T22_ mM 120 ll3 [(.int (((128 : Int32) ||| (((lg - (1 : Int64)) &&& (63 : Int64)).toInt32)).toInt8.toInt32)), (.int en), (.ref ba)] (fun tT kK => ?_) ?_
      · refine XS.iload X22_.here hx rfl (hC e19_117.1) rfl ?_
        refine XS.i2b X22_.here hx rfl (hC e19_117.2.1) rfl ?_
        exact kK
      obtain ⟨cl34_, Ar34_, qk34_, Sz34_, Nn34_, Hh34_, Gg34_⟩ := id fc33_
      have hin35_ : ¬ (en < 0 ∨ cl34_.slots.size ≤ (en).toNatClampNeg) := inb_of Sz34_ (own_pl (by omega))
      obtain ⟨T35_, h35_, X35_, e35_, W35_, st35_⟩ := stB X22_ hx hZ e22_ Ar34_ (j := en) hin35_ (g := (mkF mM 120 ll3 [(.int (((128 : Int32) ||| (((lg - (1 : Int64)) &&& (63 : Int64)).toInt32)).toInt8.toInt32)), (.int en), (.ref ba)])) rfl rfl (hC e19_117.2.2.1)
      have V35_ : Arv Z h35_ ba kb .byte (28 : Int32) (vs.set (en).toNatClampNeg (.int (nar .byte (((128 : Int32) ||| (((lg - (1 : Int64)) &&& (63 : Int64)).toInt32)).toInt8.toInt32)))) (.int (0 : Int32)) := Arv.set Ar34_ qk34_ Sz34_ Nn34_ Hh34_ Gg34_ (fits_nar_byte _) W35_ _ rfl (own_pn (by omega) (by first | exact hl | (simp only [List.length_set]; exact hl)))
      have fc36_ := fc23_.wr W35_
      have fc37_ := fc24_.other W35_ (Or.inl ne_a_ba)
      have fc38_ := fc25_.other W35_ (Or.inl ne_a_ba)
      have fc39_ := fc26_.other W35_ (Or.inl ne_a_ba)
      have fc40_ := fc27_.other W35_ (Or.inl ne_a_ba)
      have fc41_ := fc28_.other W35_ (Or.inl ne_a_ba)
      have fc42_ := Fw22_.other W35_ (Or.inl ne_a_ba)
      have fc43_ := fc29_.other W35_ (Or.inl ne_a_ba)
      have fc44_ := fc30_.other W35_ (Or.inl ne_a_ba)
      have fc45_ := fc31_.other W35_ (Or.inl ne_a_ba)
      have fc46_ := fc32_.other W35_ (Or.inl ne_a_ba)
      have K35_ := K22_.wr W35_ (Or.inl (List.mem_of_getElem? (i := 1) rfl))
      have N35_ := Fr.snoc X35_ N22_ g_ba
      refine own_fin st35_ ?_
      refine jg T35_ mM 156 ll3 [(.long ((lt - lf) - (1 : Int64))), (.ref a)] (fun tT kK => ?_) ?_
      · refine XS.goto X35_.here hx rfl (pc0 := 121) (pc' := 152) rfl (hC e19_117.2.2.2) (by decide) (by decide) ?_
        refine XS.aloadN X35_.here hx rfl (hC e19_152.1) rfl rfl ?_
        refine XS.lloadN X35_.here hx rfl (hC e19_152.2.1) rfl ?_
        show Steps pP.tables eE below (T35_.setTop (mkF mM 154 ll3 [(.long (lt - lf)), (.ref a)])) tT
        refine XS.lconst X35_.here hx rfl (hC e19_152.2.2.1) ?_
        refine XS.lsub X35_.here hx rfl (hC e19_152.2.2.2) rfl ?_
        exact kK
      refine jw X35_ hx hZ (y := jy9) hown (jk hw 166 rfl) (jk hw 167 rfl) (own_selP (y := jy9) hZ (jk hw 54 rfl) (jk hw 168 rfl) (jk hw 167 rfl) (by decide)) (jk hw 168 rfl) (jk hw 169 rfl) (jk hw 55 rfl) (rm_w lL Z a0 hw [] a ba kb sz ff ft lg lf lt ((lt - lf) - (1 : Int64)) (en + (1 : Int32)) en (vs.set (en).toNatClampNeg (.int (nar .byte (((128 : Int32) ||| (((lg - (1 : Int64)) &&& (63 : Int64)).toInt32)).toInt8.toInt32)))) h35_ n0 (Nat.le_trans Z0 K35_.1) fc36_ fc37_ fc38_ fc39_ fc40_ fc41_ fc42_ fc43_ fc44_ fc45_ fc46_ V35_ (by first | exact hl | (simp only [List.length_set]; exact hl)) (by omega) (by omega) g_a g_ba ne_a_ba) fc36_ e35_ own_pd0 [(.long ((lt - lf) - (1 : Int64)))] [] (hC d19_156) rfl rfl (by rw [hml]; rfl) (by decide) 0 (Nat.le_of_eq rfl) (by decide) (by decide) (by decide : 0 + 0 ≤ _) (by decide : 0 + 0 ≤ _) fun vv47_ T47_ L47_ X47_ hQ47_ => ?_
      obtain ⟨en'_47_, vs'_47_, rfl, N47_q, p47__0, p47__1, p47__2, p47__3, p47__4, p47__5, p47__6, p47__7, p47__8, p47__9, p47__10, p47__11, p47__12, p47__13, p47__14⟩ := hQ47_
      have N47_ := Fr.app N35_ N47_q
      have K47_ := K35_.trans p47__0 (allS (Or.inl (List.mem_of_getElem? (i := 0) rfl)) (allS (Or.inl (List.mem_of_getElem? (i := 1) rfl)) all0))
      exact own_rV X47_ hx hlk hre (hC e19_159.1) rfl (by decide) (by decide) ⟨en'_47_, vs'_47_, rfl, N47_, K47_, p47__1, by omega, p47__3, p47__4, p47__5, p47__6, p47__7, p47__8, p47__9, p47__10, p47__11, p47__12, p47__13, p47__14⟩
    · refine jg T18_ mM 125 ll3 [(.ref a)] (fun tT kK => ?_) ?_
      · refine XS.ifYes X18_.here hx rfl (pc0 := 99) (pc' := 124) rfl (hC e19_97.2.2.1) rfl ((if0 _ _).trans (feq (mt (lw_eq (((lg - (1 : Int64)).toUInt64 >>> ((6 : Int32) &&& 0x3f).toInt64.toUInt64).toInt64) (0 : Int64)).mp (hc99_19_ : ¬ ((((lg - (1 : Int64)).toUInt64 >>> ((6 : Int32) &&& 0x3f).toInt64.toUInt64).toInt64) = (0 : Int64))))).2) (by decide) (by decide) ?_
        refine XS.aloadN X18_.here hx rfl (hC e19_159.2.1) rfl rfl ?_
        exact kK
      refine jf X18_ hx hZ hown (jk hw 62 rfl) e18_ fc7_ (hC e19_159.2.2.1) fun T49_ X49_ e49_ => ?_
      refine jg T49_ mM 130 ll3 [(.ref a), (.ref a), (.ref ba)] (fun tT kK => ?_) ?_
      · refine XS.aloadN X49_.here hx rfl (hC e19_159.2.2.2) rfl rfl ?_
        refine XS.dup X49_.here hx rfl (hC e19_129.1) rfl rfl ?_
        exact kK
      refine jf X49_ hx hZ hown (jk hw 105 rfl) e49_ fc9_ (hC e19_129.2.1) fun T50_ X50_ e50_ => ?_
      refine jg T50_ mM 136 ll3 [(.int (en + (1 : Int32))), (.ref a), (.int en), (.ref ba)] (fun tT kK => ?_) ?_
      · refine XS.dupX1 X50_.here hx rfl (hC e19_129.2.2.1) rfl rfl rfl ?_
        refine XS.iconst X50_.here hx rfl (hC e19_129.2.2.2) ?_
        refine XS.iadd X50_.here hx rfl (hC e19_135.1) rfl ?_
        exact kK
      refine jq X50_ hx hZ hown (jk hw 105 rfl) e50_ fc9_ fc3_ (jk hw 106 rfl) (jk hw 54 rfl) (ty := .int) (by decide) rfl rfl (hC e19_135.2.1) K2_ N2_ (Or.inl (List.mem_of_getElem? (i := 0) rfl)) g_a fun T51_ h51_ X51_ e51_ W51_ Fw51_ K51_ N51_ => ?_
      have fc52_ := fc3_.wr W51_
      have fc53_ := fc4_.other W51_ (Or.inr (js23 hw))
      have fc54_ := fc5_.other W51_ (Or.inr (js24 hw))
      have fc55_ := fc6_.other W51_ (Or.inr (js25 hw))
      have fc56_ := fc7_.other W51_ (Or.inr (js9 hw).symm)
      have fc57_ := fc8_.other W51_ (Or.inr (js26 hw))
      have fc58_ := Fw2_.other W51_ (Or.inr (js18 hw).symm)
      have fc59_ := fc10_.other W51_ (Or.inr (js27 hw))
      have fc60_ := fc11_.other W51_ (Or.inr (js28 hw))
      have fc61_ := fc12_.other W51_ (Or.inr (js29 hw))
      have fc62_ := fc13_.other W51_ (Ne.symm ne_a_ba)
      refine jg T51_ mM 145 ll3 [(.int ((((128 : Int32) ||| (((lg - (1 : Int64)) &&& (63 : Int64)).toInt32)) ||| (64 : Int32)).toInt8.toInt32)), (.int en), (.ref ba)] (fun tT kK => ?_) ?_
      · refine XS.iload X51_.here hx rfl (hC e19_135.2.2.1) rfl ?_
        refine XS.bipush X51_.here hx rfl (hC e19_135.2.2.2) ?_
        refine XS.ior X51_.here hx rfl (hC e19_143.1) rfl ?_
        refine XS.i2b X51_.here hx rfl (hC e19_143.2.1) rfl ?_
        exact kK
      obtain ⟨cl63_, Ar63_, qk63_, Sz63_, Nn63_, Hh63_, Gg63_⟩ := id fc62_
      have hin64_ : ¬ (en < 0 ∨ cl63_.slots.size ≤ (en).toNatClampNeg) := inb_of Sz63_ (own_pl (by omega))
      obtain ⟨T64_, h64_, X64_, e64_, W64_, st64_⟩ := stB X51_ hx hZ e51_ Ar63_ (j := en) hin64_ (g := (mkF mM 145 ll3 [(.int ((((128 : Int32) ||| (((lg - (1 : Int64)) &&& (63 : Int64)).toInt32)) ||| (64 : Int32)).toInt8.toInt32)), (.int en), (.ref ba)])) rfl rfl (hC e19_143.2.2.1)
      have V64_ : Arv Z h64_ ba kb .byte (28 : Int32) (vs.set (en).toNatClampNeg (.int (nar .byte ((((128 : Int32) ||| (((lg - (1 : Int64)) &&& (63 : Int64)).toInt32)) ||| (64 : Int32)).toInt8.toInt32)))) (.int (0 : Int32)) := Arv.set Ar63_ qk63_ Sz63_ Nn63_ Hh63_ Gg63_ (fits_nar_byte _) W64_ _ rfl (own_pn (by omega) (by first | exact hl | (simp only [List.length_set]; exact hl)))
      have fc65_ := fc52_.wr W64_
      have fc66_ := fc53_.other W64_ (Or.inl ne_a_ba)
      have fc67_ := fc54_.other W64_ (Or.inl ne_a_ba)
      have fc68_ := fc55_.other W64_ (Or.inl ne_a_ba)
      have fc69_ := fc56_.other W64_ (Or.inl ne_a_ba)
      have fc70_ := fc57_.other W64_ (Or.inl ne_a_ba)
      have fc71_ := Fw51_.other W64_ (Or.inl ne_a_ba)
      have fc72_ := fc58_.other W64_ (Or.inl ne_a_ba)
      have fc73_ := fc59_.other W64_ (Or.inl ne_a_ba)
      have fc74_ := fc60_.other W64_ (Or.inl ne_a_ba)
      have fc75_ := fc61_.other W64_ (Or.inl ne_a_ba)
      have K64_ := K51_.wr W64_ (Or.inl (List.mem_of_getElem? (i := 1) rfl))
      have N64_ := Fr.snoc X64_ N51_ g_ba
      refine own_fin st64_ ?_
      refine jg T64_ mM 149 ll3 [(.long (((lg - (1 : Int64)).toUInt64 >>> ((6 : Int32) &&& 0x3f).toInt64.toUInt64).toInt64)), (.ref a)] (fun tT kK => ?_) ?_
      · refine XS.aloadN X64_.here hx rfl (hC e19_143.2.2.2) rfl rfl ?_
        show Steps pP.tables eE below (T64_.setTop (mkF mM 147 ll3 [(.ref a)])) tT
        refine XS.lload X64_.here hx rfl (hC e19_147.1) rfl ?_
        exact kK
      refine jw X64_ hx hZ (y := jy9) hown (jk hw 166 rfl) (jk hw 167 rfl) (own_selP (y := jy9) hZ (jk hw 54 rfl) (jk hw 168 rfl) (jk hw 167 rfl) (by decide)) (jk hw 168 rfl) (jk hw 169 rfl) (jk hw 55 rfl) (rm_w lL Z a0 hw [] a ba kb sz ff ft lg lf lt (((lg - (1 : Int64)).toUInt64 >>> ((6 : Int32) &&& 0x3f).toInt64.toUInt64).toInt64) (en + (1 : Int32)) en (vs.set (en).toNatClampNeg (.int (nar .byte ((((128 : Int32) ||| (((lg - (1 : Int64)) &&& (63 : Int64)).toInt32)) ||| (64 : Int32)).toInt8.toInt32)))) h64_ n0 (Nat.le_trans Z0 K64_.1) fc65_ fc66_ fc67_ fc68_ fc69_ fc70_ fc71_ fc72_ fc73_ fc74_ fc75_ V64_ (by first | exact hl | (simp only [List.length_set]; exact hl)) (by omega) (by omega) g_a g_ba ne_a_ba) fc65_ e64_ own_pd0 [(.long (((lg - (1 : Int64)).toUInt64 >>> ((6 : Int32) &&& 0x3f).toInt64.toUInt64).toInt64))] [] (hC e19_147.2.1) rfl rfl (by rw [hml]; rfl) (by decide) 0 (Nat.le_of_eq rfl) (by decide) (by decide) (by decide : 0 + 0 ≤ _) (by decide : 0 + 0 ≤ _) fun vv76_ T76_ L76_ X76_ hQ76_ => ?_
      obtain ⟨en'_76_, vs'_76_, rfl, N76_q, p76__0, p76__1, p76__2, p76__3, p76__4, p76__5, p76__6, p76__7, p76__8, p76__9, p76__10, p76__11, p76__12, p76__13, p76__14⟩ := hQ76_
      have N76_ := Fr.app N64_ N76_q
      have K76_ := K64_.trans p76__0 (allS (Or.inl (List.mem_of_getElem? (i := 0) rfl)) (allS (Or.inl (List.mem_of_getElem? (i := 1) rfl)) all0))
      refine jg T76_ mM 156 ll3 [(.long ((lt - lf) - (1 : Int64))), (.ref a)] (fun tT kK => ?_) ?_
      · refine XS.aloadN X76_.here hx rfl (hC e19_152.1) rfl rfl ?_
        refine XS.lloadN X76_.here hx rfl (hC e19_152.2.1) rfl ?_
        refine XS.lconst X76_.here hx rfl (hC e19_152.2.2.1) ?_
        refine XS.lsub X76_.here hx rfl (hC e19_152.2.2.2) rfl ?_
        exact kK
      refine jw X76_ hx hZ (y := jy9) hown (jk hw 166 rfl) (jk hw 167 rfl) (own_selP (y := jy9) hZ (jk hw 54 rfl) (jk hw 168 rfl) (jk hw 167 rfl) (by decide)) (jk hw 168 rfl) (jk hw 169 rfl) (jk hw 55 rfl) (rm_w lL Z a0 hw [] a ba kb sz ff ft lg lf lt ((lt - lf) - (1 : Int64)) en'_76_ en vs'_76_ T76_.heap n0 (Nat.le_trans Z0 K76_.1) p76__3 p76__4 p76__5 p76__6 p76__7 p76__8 p76__9 p76__10 p76__11 p76__12 p76__13 p76__14 p76__1 (by omega) (by omega) g_a g_ba ne_a_ba) p76__3 rfl own_pd0 [(.long ((lt - lf) - (1 : Int64)))] [] (hC d19_156) rfl rfl (by rw [hml]; rfl) (by decide) 0 (Nat.le_of_eq rfl) (by decide) (by decide) (by decide : 0 + 0 ≤ _) (by decide : 0 + 0 ≤ _) fun vv78_ T78_ L78_ X78_ hQ78_ => ?_
      obtain ⟨en'_78_, vs'_78_, rfl, N78_q, p78__0, p78__1, p78__2, p78__3, p78__4, p78__5, p78__6, p78__7, p78__8, p78__9, p78__10, p78__11, p78__12, p78__13, p78__14⟩ := hQ78_
      have N78_ := Fr.app N76_ N78_q
      have K78_ := K76_.trans p78__0 (allS (Or.inl (List.mem_of_getElem? (i := 0) rfl)) (allS (Or.inl (List.mem_of_getElem? (i := 1) rfl)) all0))
      exact own_rV X78_ hx hlk hre (hC e19_159.1) rfl (by decide) (by decide) ⟨en'_78_, vs'_78_, rfl, N78_, K78_, p78__1, by omega, p78__3, p78__4, p78__5, p78__6, p78__7, p78__8, p78__9, p78__10, p78__11, p78__12, p78__13, p78__14⟩
  · refine jg T16_ mM 34 ll2 [(.int (lcmpW (lt - lf) (8 : Int64)))] (fun tT kK => ?_) ?_
    · refine XS.ifNo X16_.here hx rfl (hC e19_22.2.2.1) rfl ((if0 _ _).trans (flt (mt (lw_gt lg (16 : Int64)).mp (hc26_17_ : ¬ ((16 : Int64) < lg)))).2.2.1) ?_
      refine XS.lloadN X16_.here hx rfl (hC e19_147.2.2.1) rfl ?_
      refine X16_.ldc2Long hx hown (jm hZ hw 134 rfl) (g := (mkF mM 30 ll2 [(.long (lt - lf))])) rfl (hC e19_147.2.2.2) _ ?_
      refine XS.lcmp X16_.here hx rfl (hC e19_33.1) rfl ?_
      exact kK
    by_cases hc34_80_ : (8 : Int64) < (lt - lf)
    · refine jg T16_ mM 71 ll2 [(.ref a)] (fun tT kK => ?_) ?_
      · refine XS.ifYes X16_.here hx rfl (pc0 := 34) (pc' := 70) rfl (hC e19_33.2.1) rfl ((if0 _ _).trans (tlt ((lw_gt (lt - lf) (8 : Int64)).mpr (hc34_80_ : (8 : Int64) < (lt - lf)))).2.2.1) (by decide) (by decide) ?_
        refine XS.aloadN X16_.here hx rfl (hC e19_22.2.2.2) rfl rfl ?_
        exact kK
      refine jf X16_ hx hZ hown (jk hw 123 rfl) e16_ fc10_ (hC e19_71.1) fun T81_ X81_ e81_ => ?_
      let ll6 : Array Slot := #[vR a, vJ (lt - lf), vS, vJ (lg - (1 : Int64)), vS, vJ (((lg - (1 : Int64)).toUInt64 >>> ((6 : Int32) &&& 0x3f).toInt64.toUInt64).toInt64), vS, vI ((128 : Int32) ||| (((lg - (1 : Int64)) &&& (63 : Int64)).toInt32))]
      refine jg T81_ mM 99 ll6 [(.int (lcmpW (((lg - (1 : Int64)).toUInt64 >>> ((6 : Int32) &&& 0x3f).toInt64.toUInt64).toInt64) (0 : Int64)))] (fun tT kK => ?_) ?_
      · refine XS.lconst X81_.here hx rfl (hC e19_71.2.1) ?_
        refine XS.lsub X81_.here hx rfl (hC e19_71.2.2.1) rfl ?_
        let ll7 : Array Slot := #[vR a, vJ (lt - lf), vS, vJ (lg - (1 : Int64)), vS, vU, vU, vU]
        refine XS.lstoreN X81_.here hx rfl (hC e19_71.2.2.2) rfl (l' := ll7) rfl ?_
        refine XS.lloadN X81_.here hx rfl (hC e19_77.1) rfl ?_
        refine XS.bipush X81_.here hx rfl (hC e19_77.2.1) ?_
        refine XS.lushr X81_.here hx rfl (hC e19_77.2.2.1) rfl ?_
        let ll8 : Array Slot := #[vR a, vJ (lt - lf), vS, vJ (lg - (1 : Int64)), vS, vJ (((lg - (1 : Int64)).toUInt64 >>> ((6 : Int32) &&& 0x3f).toInt64.toUInt64).toInt64), vS, vU]
        refine XS.lstore X81_.here hx rfl (hC e19_77.2.2.2) rfl (l' := ll8) rfl ?_
        refine XS.sipush X81_.here hx rfl (hC e19_83.1) ?_
        refine XS.lloadN X81_.here hx rfl (hC e19_83.2.1) rfl ?_
        refine X81_.ldc2Long hx hown (jm hZ hw 165 rfl) (g := (mkF mM 87 ll8 [(.long (lg - (1 : Int64))), (.int (128 : Int32))])) rfl (hC e19_83.2.2.1) _ ?_
        refine XS.land X81_.here hx rfl (hC e19_83.2.2.2) rfl ?_
        refine XS.l2i X81_.here hx rfl (hC e19_91.1) rfl ?_
        refine XS.ior X81_.here hx rfl (hC e19_91.2.1) rfl ?_
        refine XS.istore X81_.here hx rfl (hC e19_91.2.2.1) rfl (l' := ll6) rfl ?_
        refine XS.lload X81_.here hx rfl (hC e19_91.2.2.2) rfl ?_
        refine XS.lconst X81_.here hx rfl (hC e19_97.1) ?_
        refine XS.lcmp X81_.here hx rfl (hC e19_97.2.1) rfl ?_
        exact kK
      by_cases hc99_82_ : (((lg - (1 : Int64)).toUInt64 >>> ((6 : Int32) &&& 0x3f).toInt64.toUInt64).toInt64) = (0 : Int64)
      · refine jg T81_ mM 103 ll6 [(.ref a)] (fun tT kK => ?_) ?_
        · refine XS.ifNo X81_.here hx rfl (hC e19_97.2.2.1) rfl ((if0 _ _).trans (teq ((lw_eq (((lg - (1 : Int64)).toUInt64 >>> ((6 : Int32) &&& 0x3f).toInt64.toUInt64).toInt64) (0 : Int64)).mpr (hc99_82_ : (((lg - (1 : Int64)).toUInt64 >>> ((6 : Int32) &&& 0x3f).toInt64.toUInt64).toInt64) = (0 : Int64)))).2) ?_
          refine XS.aloadN X81_.here hx rfl (hC e19_97.2.2.2) rfl rfl ?_
          exact kK
        refine jf X81_ hx hZ hown (jk hw 62 rfl) e81_ fc7_ (hC e19_103.1) fun T83_ X83_ e83_ => ?_
        refine jg T83_ mM 108 ll6 [(.ref a), (.ref a), (.ref ba)] (fun tT kK => ?_) ?_
        · refine XS.aloadN X83_.here hx rfl (hC e19_103.2.1) rfl rfl ?_
          refine XS.dup X83_.here hx rfl (hC e19_103.2.2.1) rfl rfl ?_
          exact kK
        refine jf X83_ hx hZ hown (jk hw 105 rfl) e83_ fc9_ (hC e19_103.2.2.2) fun T84_ X84_ e84_ => ?_
        refine jg T84_ mM 114 ll6 [(.int (en + (1 : Int32))), (.ref a), (.int en), (.ref ba)] (fun tT kK => ?_) ?_
        · refine XS.dupX1 X84_.here hx rfl (hC e19_111.1) rfl rfl rfl ?_
          refine XS.iconst X84_.here hx rfl (hC e19_111.2.1) ?_
          refine XS.iadd X84_.here hx rfl (hC e19_111.2.2.1) rfl ?_
          exact kK
        refine jq X84_ hx hZ hown (jk hw 105 rfl) e84_ fc9_ fc3_ (jk hw 106 rfl) (jk hw 54 rfl) (ty := .int) (by decide) rfl rfl (hC e19_111.2.2.2) K2_ N2_ (Or.inl (List.mem_of_getElem? (i := 0) rfl)) g_a fun T85_ h85_ X85_ e85_ W85_ Fw85_ K85_ N85_ => ?_
        have fc86_ := fc3_.wr W85_
        have fc87_ := fc4_.other W85_ (Or.inr (js23 hw))
        have fc88_ := fc5_.other W85_ (Or.inr (js24 hw))
        have fc89_ := fc6_.other W85_ (Or.inr (js25 hw))
        have fc90_ := fc7_.other W85_ (Or.inr (js9 hw).symm)
        have fc91_ := fc8_.other W85_ (Or.inr (js26 hw))
        have fc92_ := Fw2_.other W85_ (Or.inr (js18 hw).symm)
        have fc93_ := fc10_.other W85_ (Or.inr (js27 hw))
        have fc94_ := fc11_.other W85_ (Or.inr (js28 hw))
        have fc95_ := fc12_.other W85_ (Or.inr (js29 hw))
        have fc96_ := fc13_.other W85_ (Ne.symm ne_a_ba)
        refine jg T85_ mM 120 ll6 [(.int (((128 : Int32) ||| (((lg - (1 : Int64)) &&& (63 : Int64)).toInt32)).toInt8.toInt32)), (.int en), (.ref ba)] (fun tT kK => ?_) ?_
        · refine XS.iload X85_.here hx rfl (hC e19_117.1) rfl ?_
          show Steps pP.tables eE below (T85_.setTop (mkF mM 119 ll6 [(.int ((128 : Int32) ||| (((lg - (1 : Int64)) &&& (63 : Int64)).toInt32))), (.int en), (.ref ba)])) tT
          refine XS.i2b X85_.here hx rfl (hC e19_117.2.1) rfl ?_
          exact kK
        obtain ⟨cl97_, Ar97_, qk97_, Sz97_, Nn97_, Hh97_, Gg97_⟩ := id fc96_
        have hin98_ : ¬ (en < 0 ∨ cl97_.slots.size ≤ (en).toNatClampNeg) := inb_of Sz97_ (own_pl (by omega))
        obtain ⟨T98_, h98_, X98_, e98_, W98_, st98_⟩ := stB X85_ hx hZ e85_ Ar97_ (j := en) hin98_ (g := (mkF mM 120 ll6 [(.int (((128 : Int32) ||| (((lg - (1 : Int64)) &&& (63 : Int64)).toInt32)).toInt8.toInt32)), (.int en), (.ref ba)])) rfl rfl (hC e19_117.2.2.1)
        have V98_ : Arv Z h98_ ba kb .byte (28 : Int32) (vs.set (en).toNatClampNeg (.int (nar .byte (((128 : Int32) ||| (((lg - (1 : Int64)) &&& (63 : Int64)).toInt32)).toInt8.toInt32)))) (.int (0 : Int32)) := Arv.set Ar97_ qk97_ Sz97_ Nn97_ Hh97_ Gg97_ (fits_nar_byte _) W98_ _ rfl (own_pn (by omega) (by first | exact hl | (simp only [List.length_set]; exact hl)))
        have fc99_ := fc86_.wr W98_
        have fc100_ := fc87_.other W98_ (Or.inl ne_a_ba)
        have fc101_ := fc88_.other W98_ (Or.inl ne_a_ba)
        have fc102_ := fc89_.other W98_ (Or.inl ne_a_ba)
        have fc103_ := fc90_.other W98_ (Or.inl ne_a_ba)
        have fc104_ := fc91_.other W98_ (Or.inl ne_a_ba)
        have fc105_ := Fw85_.other W98_ (Or.inl ne_a_ba)
        have fc106_ := fc92_.other W98_ (Or.inl ne_a_ba)
        have fc107_ := fc93_.other W98_ (Or.inl ne_a_ba)
        have fc108_ := fc94_.other W98_ (Or.inl ne_a_ba)
        have fc109_ := fc95_.other W98_ (Or.inl ne_a_ba)
        have K98_ := K85_.wr W98_ (Or.inl (List.mem_of_getElem? (i := 1) rfl))
        have N98_ := Fr.snoc X98_ N85_ g_ba
        refine own_fin st98_ ?_
        refine jg T98_ mM 156 ll6 [(.long ((lt - lf) - (1 : Int64))), (.ref a)] (fun tT kK => ?_) ?_
        · refine XS.goto X98_.here hx rfl (pc0 := 121) (pc' := 152) rfl (hC e19_117.2.2.2) (by decide) (by decide) ?_
          refine XS.aloadN X98_.here hx rfl (hC e19_152.1) rfl rfl ?_
          refine XS.lloadN X98_.here hx rfl (hC e19_152.2.1) rfl ?_
          refine XS.lconst X98_.here hx rfl (hC e19_152.2.2.1) ?_
          refine XS.lsub X98_.here hx rfl (hC e19_152.2.2.2) rfl ?_
          exact kK
        refine jw X98_ hx hZ (y := jy9) hown (jk hw 166 rfl) (jk hw 167 rfl) (own_selP (y := jy9) hZ (jk hw 54 rfl) (jk hw 168 rfl) (jk hw 167 rfl) (by decide)) (jk hw 168 rfl) (jk hw 169 rfl) (jk hw 55 rfl) (rm_w lL Z a0 hw [] a ba kb sz ff ft lg lf lt ((lt - lf) - (1 : Int64)) (en + (1 : Int32)) en (vs.set (en).toNatClampNeg (.int (nar .byte (((128 : Int32) ||| (((lg - (1 : Int64)) &&& (63 : Int64)).toInt32)).toInt8.toInt32)))) h98_ n0 (Nat.le_trans Z0 K98_.1) fc99_ fc100_ fc101_ fc102_ fc103_ fc104_ fc105_ fc106_ fc107_ fc108_ fc109_ V98_ (by first | exact hl | (simp only [List.length_set]; exact hl)) (by omega) (by omega) g_a g_ba ne_a_ba) fc99_ e98_ own_pd0 [(.long ((lt - lf) - (1 : Int64)))] [] (hC d19_156) rfl rfl (by rw [hml]; rfl) (by decide) 0 (Nat.le_of_eq rfl) (by decide) (by decide) (by decide : 0 + 0 ≤ _) (by decide : 0 + 0 ≤ _) fun vv110_ T110_ L110_ X110_ hQ110_ => ?_
        obtain ⟨en'_110_, vs'_110_, rfl, N110_q, p110__0, p110__1, p110__2, p110__3, p110__4, p110__5, p110__6, p110__7, p110__8, p110__9, p110__10, p110__11, p110__12, p110__13, p110__14⟩ := hQ110_
        have N110_ := Fr.app N98_ N110_q
        have K110_ := K98_.trans p110__0 (allS (Or.inl (List.mem_of_getElem? (i := 0) rfl)) (allS (Or.inl (List.mem_of_getElem? (i := 1) rfl)) all0))
        exact own_rV X110_ hx hlk hre (hC e19_159.1) rfl (by decide) (by decide) ⟨en'_110_, vs'_110_, rfl, N110_, K110_, p110__1, by omega, p110__3, p110__4, p110__5, p110__6, p110__7, p110__8, p110__9, p110__10, p110__11, p110__12, p110__13, p110__14⟩
      · refine jg T81_ mM 125 ll6 [(.ref a)] (fun tT kK => ?_) ?_
        · refine XS.ifYes X81_.here hx rfl (pc0 := 99) (pc' := 124) rfl (hC e19_97.2.2.1) rfl ((if0 _ _).trans (feq (mt (lw_eq (((lg - (1 : Int64)).toUInt64 >>> ((6 : Int32) &&& 0x3f).toInt64.toUInt64).toInt64) (0 : Int64)).mp (hc99_82_ : ¬ ((((lg - (1 : Int64)).toUInt64 >>> ((6 : Int32) &&& 0x3f).toInt64.toUInt64).toInt64) = (0 : Int64))))).2) (by decide) (by decide) ?_
          refine XS.aloadN X81_.here hx rfl (hC e19_159.2.1) rfl rfl ?_
          exact kK
        refine jf X81_ hx hZ hown (jk hw 62 rfl) e81_ fc7_ (hC e19_159.2.2.1) fun T112_ X112_ e112_ => ?_
        refine jg T112_ mM 130 ll6 [(.ref a), (.ref a), (.ref ba)] (fun tT kK => ?_) ?_
        · refine XS.aloadN X112_.here hx rfl (hC e19_159.2.2.2) rfl rfl ?_
          refine XS.dup X112_.here hx rfl (hC e19_129.1) rfl rfl ?_
          exact kK
        refine jf X112_ hx hZ hown (jk hw 105 rfl) e112_ fc9_ (hC e19_129.2.1) fun T113_ X113_ e113_ => ?_
        refine jg T113_ mM 136 ll6 [(.int (en + (1 : Int32))), (.ref a), (.int en), (.ref ba)] (fun tT kK => ?_) ?_
        · refine XS.dupX1 X113_.here hx rfl (hC e19_129.2.2.1) rfl rfl rfl ?_
          refine XS.iconst X113_.here hx rfl (hC e19_129.2.2.2) ?_
          refine XS.iadd X113_.here hx rfl (hC e19_135.1) rfl ?_
          exact kK
        refine jq X113_ hx hZ hown (jk hw 105 rfl) e113_ fc9_ fc3_ (jk hw 106 rfl) (jk hw 54 rfl) (ty := .int) (by decide) rfl rfl (hC e19_135.2.1) K2_ N2_ (Or.inl (List.mem_of_getElem? (i := 0) rfl)) g_a fun T114_ h114_ X114_ e114_ W114_ Fw114_ K114_ N114_ => ?_
        have fc115_ := fc3_.wr W114_
        have fc116_ := fc4_.other W114_ (Or.inr (js23 hw))
        have fc117_ := fc5_.other W114_ (Or.inr (js24 hw))
        have fc118_ := fc6_.other W114_ (Or.inr (js25 hw))
        have fc119_ := fc7_.other W114_ (Or.inr (js9 hw).symm)
        have fc120_ := fc8_.other W114_ (Or.inr (js26 hw))
        have fc121_ := Fw2_.other W114_ (Or.inr (js18 hw).symm)
        have fc122_ := fc10_.other W114_ (Or.inr (js27 hw))
        have fc123_ := fc11_.other W114_ (Or.inr (js28 hw))
        have fc124_ := fc12_.other W114_ (Or.inr (js29 hw))
        have fc125_ := fc13_.other W114_ (Ne.symm ne_a_ba)
        refine jg T114_ mM 145 ll6 [(.int ((((128 : Int32) ||| (((lg - (1 : Int64)) &&& (63 : Int64)).toInt32)) ||| (64 : Int32)).toInt8.toInt32)), (.int en), (.ref ba)] (fun tT kK => ?_) ?_
        · refine XS.iload X114_.here hx rfl (hC e19_135.2.2.1) rfl ?_
          show Steps pP.tables eE below (T114_.setTop (mkF mM 141 ll6 [(.int ((128 : Int32) ||| (((lg - (1 : Int64)) &&& (63 : Int64)).toInt32))), (.int en), (.ref ba)])) tT
          refine XS.bipush X114_.here hx rfl (hC e19_135.2.2.2) ?_
          refine XS.ior X114_.here hx rfl (hC e19_143.1) rfl ?_
          refine XS.i2b X114_.here hx rfl (hC e19_143.2.1) rfl ?_
          exact kK
        obtain ⟨cl126_, Ar126_, qk126_, Sz126_, Nn126_, Hh126_, Gg126_⟩ := id fc125_
        have hin127_ : ¬ (en < 0 ∨ cl126_.slots.size ≤ (en).toNatClampNeg) := inb_of Sz126_ (own_pl (by omega))
        obtain ⟨T127_, h127_, X127_, e127_, W127_, st127_⟩ := stB X114_ hx hZ e114_ Ar126_ (j := en) hin127_ (g := (mkF mM 145 ll6 [(.int ((((128 : Int32) ||| (((lg - (1 : Int64)) &&& (63 : Int64)).toInt32)) ||| (64 : Int32)).toInt8.toInt32)), (.int en), (.ref ba)])) rfl rfl (hC e19_143.2.2.1)
        have V127_ : Arv Z h127_ ba kb .byte (28 : Int32) (vs.set (en).toNatClampNeg (.int (nar .byte ((((128 : Int32) ||| (((lg - (1 : Int64)) &&& (63 : Int64)).toInt32)) ||| (64 : Int32)).toInt8.toInt32)))) (.int (0 : Int32)) := Arv.set Ar126_ qk126_ Sz126_ Nn126_ Hh126_ Gg126_ (fits_nar_byte _) W127_ _ rfl (own_pn (by omega) (by first | exact hl | (simp only [List.length_set]; exact hl)))
        have fc128_ := fc115_.wr W127_
        have fc129_ := fc116_.other W127_ (Or.inl ne_a_ba)
        have fc130_ := fc117_.other W127_ (Or.inl ne_a_ba)
        have fc131_ := fc118_.other W127_ (Or.inl ne_a_ba)
        have fc132_ := fc119_.other W127_ (Or.inl ne_a_ba)
        have fc133_ := fc120_.other W127_ (Or.inl ne_a_ba)
        have fc134_ := Fw114_.other W127_ (Or.inl ne_a_ba)
        have fc135_ := fc121_.other W127_ (Or.inl ne_a_ba)
        have fc136_ := fc122_.other W127_ (Or.inl ne_a_ba)
        have fc137_ := fc123_.other W127_ (Or.inl ne_a_ba)
        have fc138_ := fc124_.other W127_ (Or.inl ne_a_ba)
        have K127_ := K114_.wr W127_ (Or.inl (List.mem_of_getElem? (i := 1) rfl))
        have N127_ := Fr.snoc X127_ N114_ g_ba
        refine own_fin st127_ ?_
        refine jg T127_ mM 149 ll6 [(.long (((lg - (1 : Int64)).toUInt64 >>> ((6 : Int32) &&& 0x3f).toInt64.toUInt64).toInt64)), (.ref a)] (fun tT kK => ?_) ?_
        · refine XS.aloadN X127_.here hx rfl (hC e19_143.2.2.2) rfl rfl ?_
          refine XS.lload X127_.here hx rfl (hC e19_147.1) rfl ?_
          exact kK
        refine jw X127_ hx hZ (y := jy9) hown (jk hw 166 rfl) (jk hw 167 rfl) (own_selP (y := jy9) hZ (jk hw 54 rfl) (jk hw 168 rfl) (jk hw 167 rfl) (by decide)) (jk hw 168 rfl) (jk hw 169 rfl) (jk hw 55 rfl) (rm_w lL Z a0 hw [] a ba kb sz ff ft lg lf lt (((lg - (1 : Int64)).toUInt64 >>> ((6 : Int32) &&& 0x3f).toInt64.toUInt64).toInt64) (en + (1 : Int32)) en (vs.set (en).toNatClampNeg (.int (nar .byte ((((128 : Int32) ||| (((lg - (1 : Int64)) &&& (63 : Int64)).toInt32)) ||| (64 : Int32)).toInt8.toInt32)))) h127_ n0 (Nat.le_trans Z0 K127_.1) fc128_ fc129_ fc130_ fc131_ fc132_ fc133_ fc134_ fc135_ fc136_ fc137_ fc138_ V127_ (by first | exact hl | (simp only [List.length_set]; exact hl)) (by omega) (by omega) g_a g_ba ne_a_ba) fc128_ e127_ own_pd0 [(.long (((lg - (1 : Int64)).toUInt64 >>> ((6 : Int32) &&& 0x3f).toInt64.toUInt64).toInt64))] [] (hC e19_147.2.1) rfl rfl (by rw [hml]; rfl) (by decide) 0 (Nat.le_of_eq rfl) (by decide) (by decide) (by decide : 0 + 0 ≤ _) (by decide : 0 + 0 ≤ _) fun vv139_ T139_ L139_ X139_ hQ139_ => ?_
        obtain ⟨en'_139_, vs'_139_, rfl, N139_q, p139__0, p139__1, p139__2, p139__3, p139__4, p139__5, p139__6, p139__7, p139__8, p139__9, p139__10, p139__11, p139__12, p139__13, p139__14⟩ := hQ139_
        have N139_ := Fr.app N127_ N139_q
        have K139_ := K127_.trans p139__0 (allS (Or.inl (List.mem_of_getElem? (i := 0) rfl)) (allS (Or.inl (List.mem_of_getElem? (i := 1) rfl)) all0))
        refine jg T139_ mM 156 ll6 [(.long ((lt - lf) - (1 : Int64))), (.ref a)] (fun tT kK => ?_) ?_
        · refine XS.aloadN X139_.here hx rfl (hC e19_152.1) rfl rfl ?_
          refine XS.lloadN X139_.here hx rfl (hC e19_152.2.1) rfl ?_
          refine XS.lconst X139_.here hx rfl (hC e19_152.2.2.1) ?_
          refine XS.lsub X139_.here hx rfl (hC e19_152.2.2.2) rfl ?_
          exact kK
        refine jw X139_ hx hZ (y := jy9) hown (jk hw 166 rfl) (jk hw 167 rfl) (own_selP (y := jy9) hZ (jk hw 54 rfl) (jk hw 168 rfl) (jk hw 167 rfl) (by decide)) (jk hw 168 rfl) (jk hw 169 rfl) (jk hw 55 rfl) (rm_w lL Z a0 hw [] a ba kb sz ff ft lg lf lt ((lt - lf) - (1 : Int64)) en'_139_ en vs'_139_ T139_.heap n0 (Nat.le_trans Z0 K139_.1) p139__3 p139__4 p139__5 p139__6 p139__7 p139__8 p139__9 p139__10 p139__11 p139__12 p139__13 p139__14 p139__1 (by omega) (by omega) g_a g_ba ne_a_ba) p139__3 rfl own_pd0 [(.long ((lt - lf) - (1 : Int64)))] [] (hC d19_156) rfl rfl (by rw [hml]; rfl) (by decide) 0 (Nat.le_of_eq rfl) (by decide) (by decide) (by decide : 0 + 0 ≤ _) (by decide : 0 + 0 ≤ _) fun vv141_ T141_ L141_ X141_ hQ141_ => ?_
        obtain ⟨en'_141_, vs'_141_, rfl, N141_q, p141__0, p141__1, p141__2, p141__3, p141__4, p141__5, p141__6, p141__7, p141__8, p141__9, p141__10, p141__11, p141__12, p141__13, p141__14⟩ := hQ141_
        have N141_ := Fr.app N139_ N141_q
        have K141_ := K139_.trans p141__0 (allS (Or.inl (List.mem_of_getElem? (i := 0) rfl)) (allS (Or.inl (List.mem_of_getElem? (i := 1) rfl)) all0))
        exact own_rV X141_ hx hlk hre (hC e19_159.1) rfl (by decide) (by decide) ⟨en'_141_, vs'_141_, rfl, N141_, K141_, p141__1, by omega, p141__3, p141__4, p141__5, p141__6, p141__7, p141__8, p141__9, p141__10, p141__11, p141__12, p141__13, p141__14⟩
    · refine jg T16_ mM 38 ll2 [(.ref a)] (fun tT kK => ?_) ?_
      · refine XS.ifNo X16_.here hx rfl (hC e19_33.2.1) rfl ((if0 _ _).trans (flt (mt (lw_gt (lt - lf) (8 : Int64)).mp (hc34_80_ : ¬ ((8 : Int64) < (lt - lf))))).2.2.1) ?_
        refine XS.aloadN X16_.here hx rfl (hC e19_33.2.2.1) rfl rfl ?_
        exact kK
      refine jf X16_ hx hZ hown (jk hw 62 rfl) e16_ fc7_ (hC e19_33.2.2.2) fun T143_ X143_ e143_ => ?_
      refine jg T143_ mM 43 ll2 [(.ref a), (.ref a), (.ref ba)] (fun tT kK => ?_) ?_
      · refine XS.aloadN X143_.here hx rfl (hC e19_41.1) rfl rfl ?_
        refine XS.dup X143_.here hx rfl (hC e19_41.2.1) rfl rfl ?_
        exact kK
      refine jf X143_ hx hZ hown (jk hw 105 rfl) e143_ fc9_ (hC e19_41.2.2.1) fun T144_ X144_ e144_ => ?_
      refine jg T144_ mM 49 ll2 [(.int (en + (1 : Int32))), (.ref a), (.int en), (.ref ba)] (fun tT kK => ?_) ?_
      · refine XS.dupX1 X144_.here hx rfl (hC e19_41.2.2.2) rfl rfl rfl ?_
        refine XS.iconst X144_.here hx rfl (hC e19_47.1) ?_
        refine XS.iadd X144_.here hx rfl (hC e19_47.2.1) rfl ?_
        exact kK
      refine jq X144_ hx hZ hown (jk hw 105 rfl) e144_ fc9_ fc3_ (jk hw 106 rfl) (jk hw 54 rfl) (ty := .int) (by decide) rfl rfl (hC e19_47.2.2.1) K2_ N2_ (Or.inl (List.mem_of_getElem? (i := 0) rfl)) g_a fun T145_ h145_ X145_ e145_ W145_ Fw145_ K145_ N145_ => ?_
      have fc146_ := fc3_.wr W145_
      have fc147_ := fc4_.other W145_ (Or.inr (js23 hw))
      have fc148_ := fc5_.other W145_ (Or.inr (js24 hw))
      have fc149_ := fc6_.other W145_ (Or.inr (js25 hw))
      have fc150_ := fc7_.other W145_ (Or.inr (js9 hw).symm)
      have fc151_ := fc8_.other W145_ (Or.inr (js26 hw))
      have fc152_ := Fw2_.other W145_ (Or.inr (js18 hw).symm)
      have fc153_ := fc10_.other W145_ (Or.inr (js27 hw))
      have fc154_ := fc11_.other W145_ (Or.inr (js28 hw))
      have fc155_ := fc12_.other W145_ (Or.inr (js29 hw))
      have fc156_ := fc13_.other W145_ (Ne.symm ne_a_ba)
      refine jg T145_ mM 53 ll2 [(.ref a), (.int en), (.ref ba)] (fun tT kK => ?_) ?_
      · refine XS.aloadN X145_.here hx rfl (hC e19_47.2.2.2) rfl rfl ?_
        exact kK
      refine jf X145_ hx hZ hown (jk hw 123 rfl) e145_ fc153_ (hC e19_53.1) fun T157_ X157_ e157_ => ?_
      refine jg T157_ mM 66 ll2 [(.int (((((lg - (1 : Int64)) <<< ((3 : Int32) &&& 0x3f).toInt64) ||| ((lt - lf) - (1 : Int64))).toInt32).toInt8.toInt32)), (.int en), (.ref ba)] (fun tT kK => ?_) ?_
      · refine XS.lconst X157_.here hx rfl (hC e19_53.2.1) ?_
        refine XS.lsub X157_.here hx rfl (hC e19_53.2.2.1) rfl ?_
        refine XS.iconst X157_.here hx rfl (hC e19_53.2.2.2) ?_
        refine XS.lshl X157_.here hx rfl (hC e19_59.1) rfl ?_
        refine XS.lloadN X157_.here hx rfl (hC e19_59.2.1) rfl ?_
        refine XS.lconst X157_.here hx rfl (hC e19_59.2.2.1) ?_
        refine XS.lsub X157_.here hx rfl (hC e19_59.2.2.2) rfl ?_
        refine XS.lor X157_.here hx rfl (hC e19_63.1) rfl ?_
        refine XS.l2i X157_.here hx rfl (hC e19_63.2.1) rfl ?_
        refine XS.i2b X157_.here hx rfl (hC e19_63.2.2.1) rfl ?_
        exact kK
      obtain ⟨cl158_, Ar158_, qk158_, Sz158_, Nn158_, Hh158_, Gg158_⟩ := id fc156_
      have hin159_ : ¬ (en < 0 ∨ cl158_.slots.size ≤ (en).toNatClampNeg) := inb_of Sz158_ (own_pl (by omega))
      obtain ⟨T159_, h159_, X159_, e159_, W159_, st159_⟩ := stB X157_ hx hZ e157_ Ar158_ (j := en) hin159_ (g := (mkF mM 66 ll2 [(.int (((((lg - (1 : Int64)) <<< ((3 : Int32) &&& 0x3f).toInt64) ||| ((lt - lf) - (1 : Int64))).toInt32).toInt8.toInt32)), (.int en), (.ref ba)])) rfl rfl (hC e19_63.2.2.2)
      have V159_ : Arv Z h159_ ba kb .byte (28 : Int32) (vs.set (en).toNatClampNeg (.int (nar .byte (((((lg - (1 : Int64)) <<< ((3 : Int32) &&& 0x3f).toInt64) ||| ((lt - lf) - (1 : Int64))).toInt32).toInt8.toInt32)))) (.int (0 : Int32)) := Arv.set Ar158_ qk158_ Sz158_ Nn158_ Hh158_ Gg158_ (fits_nar_byte _) W159_ _ rfl (own_pn (by omega) (by first | exact hl | (simp only [List.length_set]; exact hl)))
      have fc160_ := fc146_.wr W159_
      have fc161_ := fc147_.other W159_ (Or.inl ne_a_ba)
      have fc162_ := fc148_.other W159_ (Or.inl ne_a_ba)
      have fc163_ := fc149_.other W159_ (Or.inl ne_a_ba)
      have fc164_ := fc150_.other W159_ (Or.inl ne_a_ba)
      have fc165_ := fc151_.other W159_ (Or.inl ne_a_ba)
      have fc166_ := Fw145_.other W159_ (Or.inl ne_a_ba)
      have fc167_ := fc152_.other W159_ (Or.inl ne_a_ba)
      have fc168_ := fc153_.other W159_ (Or.inl ne_a_ba)
      have fc169_ := fc154_.other W159_ (Or.inl ne_a_ba)
      have fc170_ := fc155_.other W159_ (Or.inl ne_a_ba)
      have K159_ := K145_.wr W159_ (Or.inl (List.mem_of_getElem? (i := 1) rfl))
      have N159_ := Fr.snoc X159_ N145_ g_ba
      refine own_fin st159_ ?_
      refine jg T159_ mM 159 ll2 [] (fun tT kK => ?_) ?_
      · refine XS.goto X159_.here hx rfl (pc0 := 67) (pc' := 159) rfl (hC d19_67) (by decide) (by decide) ?_
        exact kK
      exact own_rV X159_ hx hlk hre (hC e19_159.1) e159_ (by decide) (by decide) ⟨(en + (1 : Int32)), (vs.set (en).toNatClampNeg (.int (nar .byte (((((lg - (1 : Int64)) <<< ((3 : Int32) &&& 0x3f).toInt64) ||| ((lt - lf) - (1 : Int64))).toInt32).toInt8.toInt32)))), rfl, N159_, K159_, by first | exact hl | (simp only [List.length_set]; exact hl), by omega, fc160_, fc161_, fc162_, fc163_, fc164_, fc165_, fc166_, fc167_, fc168_, fc169_, fc170_, V159_⟩
theorem e17_0 : jD11 0 (.bipush 16, 2) ∧ jD11 2 (.iload_n 0, 1) ∧ jD11 3 (.iload_n 0, 1) ∧ jD11 4 (.iconst 2, 1) := by decide +kernel
theorem e17_5 : jD11 5 (.idiv, 1) ∧ jD11 6 (.iadd, 1) ∧ jD11 7 (.invokestatic 133, 3) := by decide +kernel
theorem own_pd1 : parseMethodDescriptor "(II)I" = some ⟨[.int, .int], some .int⟩ := by decide +kernel
theorem d17_10 : jD11 10 (.ireturn, 1) := by decide +kernel
theorem own_ef_rm_wr (mM : MethodId) (x0 : Int32) : entryFrame mM #[(.int x0)] 1 = mkF mM 0 #[.val (.int x0)] [] := by first | (simp [entryFrame, mkF, argsToLocals, Value.category]; done) | rfl
def Q_rm_wr (Z : State)  (h0 : Heap) (n0 : Nat) (vV : Option Value) (hH : Heap) (lA : List Loc) : Prop := vV = some (.int (28 : Int32)) ∧ Fr n0 lA ∧ (hH = h0)
set_option maxRecDepth 65536 in
set_option maxHeartbeats 40000000 in
theorem rm_wr (lL : Launch) (Z : State) (a0 : Array Value) (hw : own_H a0 Z) (ws : List Jvm.Cond)  (h0 : Heap) (n0 : Nat) (Z0 : n0 ≤ h0.size) :
    own_Met lL jy11 (Jvm.Cond.code jy11 prog_39_method_17_code 1 (some .int) :: ws) jr5 #[(.int (19 : Int32))] Z h0 (Q_rm_wr Z  h0 n0) := by
  refine own_begin (plainFor_of_name own_pn_com_example_portion_portion_server_OffsetSet_Page) (fun mM => own_ef_rm_wr mM (19 : Int32)) fun pP eE sS mM below meth cC s₁ hx hby hml hZ hown hnm hre hlk X0 e0 => ?_
  have hC := @Jvm.hb _ _ hby
  have N0 := Fr.nil n0
  have K0 := Keep.refl h0 ([] : List Addr)
  refine jg s₁ mM 7 #[vI 19] [(.int (28 : Int32)), (.int (16 : Int32))] (fun tT kK => ?_) ?_
  · refine XS.bipush X0.here hx rfl (hC e17_0.1) ?_
    refine XS.iloadN X0.here hx rfl (hC e17_0.2.1) rfl ?_
    refine XS.iloadN X0.here hx rfl (hC e17_0.2.2.1) rfl ?_
    refine XS.iconst X0.here hx rfl (hC e17_0.2.2.2) ?_
    refine XS.idiv X0.here hx rfl (hC e17_5.1) rfl (by decide) ?_
    refine XS.iadd X0.here hx rfl (hC e17_5.2.1) rfl ?_
    exact kK
  refine jc X0 hx hZ (y := jy1) hown (jk hw 116 rfl) (jk hw 40 rfl) (jk hw 41 rfl) (jk hw 42 rfl) (rm_mxc lL Z a0 hw []  h0 n0 (Nat.le_trans Z0 K0.1) ) e0 own_pd1 [(.int (16 : Int32)), (.int (28 : Int32))] [] (hC e17_5.2.2) rfl rfl (by rw [hml]; rfl) (by decide) 0 (Nat.le_of_eq rfl) (by decide) (by decide) (by decide : 0 + 0 ≤ _) (by decide : 0 + 0 ≤ _) fun vv1_ T1_ L1_ X1_ hQ1_ => ?_
  obtain ⟨rfl, N1_q, p1__0⟩ := hQ1_
  have N1_ := Fr.app N0 N1_q
  exact own_rr X1_ hx hlk hre rfl (Or.inl ⟨rfl, Or.inl rfl, _, rfl⟩) (hC d17_10) p1__0 (by decide) (by decide) ⟨rfl, N1_, rfl⟩
theorem e18_0 : jD12 0 (.iload_n 1, 1) ∧ jD12 1 (.ifCond .ne 9, 3) ∧ jD12 10 (.iload_n 1, 1) ∧ jD12 11 (.newarray .byte, 2) := by decide +kernel
theorem e18_13 : jD12 13 (.astore_n 2, 1) ∧ jD12 14 (.aload_n 0, 1) ∧ jD12 15 (.getfield 13, 3) ∧ jD12 18 (.aload_n 0, 1) := by decide +kernel
theorem e18_19 : jD12 19 (.getfield 38, 3) ∧ jD12 22 (.aload_n 2, 1) ∧ jD12 23 (.iconst 0, 1) ∧ jD12 24 (.aload_n 0, 1) := by decide +kernel
theorem e18_25 : jD12 25 (.getfield 35, 3) ∧ jD12 28 (.aload_n 0, 1) ∧ jD12 29 (.getfield 38, 3) ∧ jD12 32 (.isub, 1) := by decide +kernel
theorem e18_33 : jD12 33 (.invokestatic 79, 3) ∧ jD12 36 (.aload_n 0, 1) ∧ jD12 37 (.getfield 18, 3) ∧ jD12 40 (.ifCond .lt 16, 3) := by decide +kernel
theorem e18_56 : jD12 56 (.aload_n 0, 1) ∧ jD12 57 (.dup, 1) ∧ jD12 58 (.getfield 35, 3) ∧ jD12 61 (.aload_n 0, 1) := by decide +kernel
theorem e18_62 : jD12 62 (.getfield 38, 3) ∧ jD12 65 (.isub, 1) ∧ jD12 66 (.putfield 35, 3) ∧ jD12 69 (.aload_n 0, 1) := by decide +kernel
theorem e18_70 : jD12 70 (.iconst 0, 1) ∧ jD12 71 (.putfield 38, 3) := by decide +kernel
theorem js30 {Z : State} {a0 : Array Value} (hw : own_H a0 Z) : jQ4 Z ≠ jQ8 Z := slot_ne (Or.inl (jk hw 77 rfl)) (Or.inl (jk hw 108 rfl)) (by decide) (t := .long) (t' := .int) (by decide) (by decide)
theorem js31 {Z : State} {a0 : Array Value} (hw : own_H a0 Z) : jQ6 Z ≠ jQ8 Z := slot_ne (Or.inl (jk hw 92 rfl)) (Or.inl (jk hw 108 rfl)) (by decide) (t := .long) (t' := .int) (by decide) (by decide)
theorem js32 {Z : State} {a0 : Array Value} (hw : own_H a0 Z) : jQ7 Z ≠ jQ8 Z := slot_ne (Or.inl (jk hw 89 rfl)) (Or.inl (jk hw 108 rfl)) (by decide) (t := .long) (t' := .int) (by decide) (by decide)
theorem js33 {Z : State} {a0 : Array Value} (hw : own_H a0 Z) : jQ11 Z ≠ jQ8 Z := slot_ne (Or.inl (jk hw 124 rfl)) (Or.inl (jk hw 108 rfl)) (by decide) (t := .long) (t' := .int) (by decide) (by decide)
theorem js34 {Z : State} {a0 : Array Value} (hw : own_H a0 Z) : jQ12 Z ≠ jQ8 Z := slot_ne (Or.inl (jk hw 126 rfl)) (Or.inl (jk hw 108 rfl)) (by decide) (t := .long) (t' := .int) (by decide) (by decide)
theorem js35 {Z : State} {a0 : Array Value} (hw : own_H a0 Z) : jQ13 Z ≠ jQ8 Z := slot_ne (Or.inl (jk hw 128 rfl)) (Or.inl (jk hw 108 rfl)) (by decide) (t := .long) (t' := .int) (by decide) (by decide)
theorem e18_74 : jD12 74 (.aload_n 0, 1) ∧ jD12 75 (.aload_n 2, 1) ∧ jD12 76 (.putfield 13, 3) ∧ jD12 79 (.return_, 1) := by decide +kernel
theorem own_ef_rm_mv1 (mM : MethodId) (x0 : Addr) (x1 : Int32) : entryFrame mM #[(.ref x0), (.int x1)] 3 = mkF mM 0 #[.val (.ref x0), .val (.int x1), .unset] [] := by first | (simp [entryFrame, mkF, argsToLocals, Value.category]; done) | rfl
def Q_rm_mv1 (Z : State) (a : Addr) (nb : Addr) (kn : ClassId) (sz : Int64) (ff : Int64) (ft : Int64) (lg : Int64) (lf : Int64) (lt : Int64) (h0 : Heap) (n0 : Nat) (vV : Option Value) (hH : Heap) (lA : List Loc) : Prop := ∃ ba : Addr, ∃ kb : ClassId, ∃ vs : List Value, vV = none ∧ Fr n0 lA ∧ (Keep h0 hH [a]) ∧ (h0.size ≤ ba) ∧ (vs.length = 28) ∧ (jE1 Z hH a) ∧ (jF11 Z hH a (.long sz)) ∧ (jF2 Z hH a (.long ff)) ∧ (jF4 Z hH a (.long ft)) ∧ (jF12 Z hH a (.ref ba)) ∧ (jF8 Z hH a (.int (0 : Int32))) ∧ (jF7 Z hH a (.int (0 : Int32))) ∧ (jF3 Z hH a (.int (-1 : Int32))) ∧ (jF13 Z hH a (.long lg)) ∧ (jF6 Z hH a (.long lf)) ∧ (jF5 Z hH a (.long lt)) ∧ (Arv Z hH ba kb .byte (28 : Int32) vs (.int (0 : Int32)))
set_option maxRecDepth 65536 in
set_option maxHeartbeats 40000000 in
theorem rm_mv1 (lL : Launch) (Z : State) (a0 : Array Value) (hw : own_H a0 Z) (ws : List Jvm.Cond) (a : Addr) (nb : Addr) (kn : ClassId) (sz : Int64) (ff : Int64) (ft : Int64) (lg : Int64) (lf : Int64) (lt : Int64) (h0 : Heap) (n0 : Nat) (Z0 : n0 ≤ h0.size) (F0 : jE1 Z h0 a) (F1 : jF11 Z h0 a (.long sz)) (F2 : jF2 Z h0 a (.long ff)) (F3 : jF4 Z h0 a (.long ft)) (F4 : jF12 Z h0 a (.ref nb)) (F5 : jF8 Z h0 a (.int (0 : Int32))) (F6 : jF7 Z h0 a (.int (0 : Int32))) (F7 : jF3 Z h0 a (.int (-1 : Int32))) (F8 : jF13 Z h0 a (.long lg)) (F9 : jF6 Z h0 a (.long lf)) (F10 : jF5 Z h0 a (.long lt)) (Vn : Arv Z h0 nb kn .byte (0 : Int32) [] (.int (0 : Int32))) (g_a : n0 ≤ a) (ne_a_nb : a ≠ nb) :
    own_Met lL jy12 (Jvm.Cond.code jy12 prog_39_method_18_code 3 none :: ws) jr6 #[(.ref a), (.int (28 : Int32))] Z h0 (Q_rm_mv1 Z a nb kn sz ff ft lg lf lt h0 n0) := by
  refine own_begin (plainFor_of_name own_pn_com_example_portion_portion_server_OffsetSet_Page) (fun mM => own_ef_rm_mv1 mM a (28 : Int32)) fun pP eE sS mM below meth cC s₁ hx hby hml hZ hown hnm hre hlk X0 e0 => ?_
  have hC := @Jvm.hb _ _ hby
  have N0 := Fr.nil n0
  have K0 := Keep.refl h0 [a]
  let ll1 : Array Slot := #[vR a, vI 28, vU]
  refine jg s₁ mM 11 ll1 [(.int (28 : Int32))] (fun tT kK => ?_) ?_
  · refine XS.iloadN X0.here hx rfl (hC e18_0.1) rfl ?_
    refine XS.ifYes X0.here hx rfl (pc0 := 1) (pc' := 10) rfl (hC e18_0.2.1) rfl ((if0 _ _).trans (feq ((by decide) : ¬ ((28 : Int32) = (0 : Int32)))).2) (by decide) (by decide) ?_
    refine XS.iloadN X0.here hx rfl (hC e18_0.2.2.1) rfl ?_
    exact kK
  obtain ⟨T1_, h1_, k1_, X1_, e1_, E1_, A1_, st1_⟩ := newP X0 hx hZ (jk hw 121 rfl) e0 (g := (mkF mM 11 ll1 [(.int (28 : Int32))])) rfl (hC e18_0.2.2.2) rfl (by decide) (cap := 28) (by decide) (by decide) (by decide) (by decide)
  obtain ⟨b1_, g1_⟩ : ∃ z, z = h0.size := ⟨_, rfl⟩
  rw [← g1_] at A1_ st1_
  have sz_b1_ : h0.size ≤ b1_ := Nat.le_trans K0.1 (Nat.le_of_eq g1_.symm)
  have ge_b1_ : n0 ≤ b1_ := Nat.le_trans Z0 sz_b1_
  have ne2_ : a ≠ b1_ := Nat.ne_of_lt (Nat.lt_of_lt_of_le F0.lt (Nat.le_of_eq g1_.symm))
  have fc4_ := F0.ext E1_
  have fc5_ := F1.ext E1_
  have fc6_ := F2.ext E1_
  have fc7_ := F3.ext E1_
  have fc8_ := F4.ext E1_
  have fc9_ := F5.ext E1_
  have fc10_ := F6.ext E1_
  have fc11_ := F7.ext E1_
  have fc12_ := F8.ext E1_
  have fc13_ := F9.ext E1_
  have fc14_ := F10.ext E1_
  have fc15_ := Vn.ext E1_
  have K1_ := K0.ext E1_
  have V1_ : Arv Z h1_ b1_ k1_ .byte (28 : Int32) [(.int (0 : Int32)), (.int (0 : Int32)), (.int (0 : Int32)), (.int (0 : Int32)), (.int (0 : Int32)), (.int (0 : Int32)), (.int (0 : Int32)), (.int (0 : Int32)), (.int (0 : Int32)), (.int (0 : Int32)), (.int (0 : Int32)), (.int (0 : Int32)), (.int (0 : Int32)), (.int (0 : Int32)), (.int (0 : Int32)), (.int (0 : Int32)), (.int (0 : Int32)), (.int (0 : Int32)), (.int (0 : Int32)), (.int (0 : Int32)), (.int (0 : Int32)), (.int (0 : Int32)), (.int (0 : Int32)), (.int (0 : Int32)), (.int (0 : Int32)), (.int (0 : Int32)), (.int (0 : Int32)), (.int (0 : Int32))] (.int (0 : Int32)) := (Arv.new A1_ (by decide)).pad (pad_rep [] (.int (0 : Int32)) 28)
  refine own_fin st1_ ?_
  let ll2 : Array Slot := #[vR a, vI 28, vR b1_]
  refine jg T1_ mM 15 ll2 [(.ref a)] (fun tT kK => ?_) ?_
  · refine XS.astoreN X1_.here hx rfl (hC e18_13.1) rfl rfl (l' := ll2) rfl ?_
    refine XS.aloadN X1_.here hx rfl (hC e18_13.2.1) rfl rfl ?_
    exact kK
  refine jf X1_ hx hZ hown (jk hw 62 rfl) e1_ fc8_ (hC e18_13.2.2.1) fun T16_ X16_ e16_ => ?_
  refine jg T16_ mM 19 ll2 [(.ref a), (.ref nb)] (fun tT kK => ?_) ?_
  · refine XS.aloadN X16_.here hx rfl (hC e18_13.2.2.2) rfl rfl ?_
    exact kK
  refine jf X16_ hx hZ hown (jk hw 107 rfl) e16_ fc9_ (hC e18_19.1) fun T17_ X17_ e17_ => ?_
  refine jg T17_ mM 25 ll2 [(.ref a), (.int (0 : Int32)), (.ref b1_), (.int (0 : Int32)), (.ref nb)] (fun tT kK => ?_) ?_
  · refine XS.aloadN X17_.here hx rfl (hC e18_19.2.1) rfl rfl ?_
    refine XS.iconst X17_.here hx rfl (hC e18_19.2.2.1) ?_
    refine XS.aloadN X17_.here hx rfl (hC e18_19.2.2.2) rfl rfl ?_
    exact kK
  refine jf X17_ hx hZ hown (jk hw 105 rfl) e17_ fc10_ (hC e18_25.1) fun T18_ X18_ e18_ => ?_
  refine jg T18_ mM 29 ll2 [(.ref a), (.int (0 : Int32)), (.int (0 : Int32)), (.ref b1_), (.int (0 : Int32)), (.ref nb)] (fun tT kK => ?_) ?_
  · refine XS.aloadN X18_.here hx rfl (hC e18_25.2.1) rfl rfl ?_
    exact kK
  refine jf X18_ hx hZ hown (jk hw 107 rfl) e18_ fc9_ (hC e18_25.2.2.1) fun T19_ X19_ e19_ => ?_
  refine jg T19_ mM 33 ll2 [(.int (0 : Int32)), (.int (0 : Int32)), (.ref b1_), (.int (0 : Int32)), (.ref nb)] (fun tT kK => ?_) ?_
  · refine XS.isub X19_.here hx rfl (hC e18_25.2.2.2) rfl ?_
    exact kK
  obtain ⟨T20_, h20_, L20_, X20_, e20_, N20_, Kc20_, V20_, st20_⟩ := cpA X19_ hx hZ hown (jk hw 122 rfl) (jk hw 75 rfl) (jk hw 73 rfl) (jk hw 74 rfl) e19_ fc15_ V1_ (us := []) (Or.inl ⟨rfl, rfl⟩) (by decide) (by decide) (by decide) (by decide) (by decide) rfl (Nat.le_of_ble_eq_true rfl) N0 ge_b1_ (g := (mkF mM 33 ll2 [(.int (0 : Int32)), (.int (0 : Int32)), (.ref b1_), (.int (0 : Int32)), (.ref nb)])) rfl (by rw [hml]; rfl) rfl (hC e18_33.1) (by decide) (W := 0) (by show 2 * 0 + _ ≤ _; exact Nat.le_of_eq rfl) (by decide)
  have fc21_ := fc4_.keep Kc20_
  have fc22_ := fc5_.keep Kc20_ (ninS ne2_ nin0)
  have fc23_ := fc6_.keep Kc20_ (ninS ne2_ nin0)
  have fc24_ := fc7_.keep Kc20_ (ninS ne2_ nin0)
  have fc25_ := fc8_.keep Kc20_ (ninS ne2_ nin0)
  have fc26_ := fc9_.keep Kc20_ (ninS ne2_ nin0)
  have fc27_ := fc10_.keep Kc20_ (ninS ne2_ nin0)
  have fc28_ := fc11_.keep Kc20_ (ninS ne2_ nin0)
  have fc29_ := fc12_.keep Kc20_ (ninS ne2_ nin0)
  have fc30_ := fc13_.keep Kc20_ (ninS ne2_ nin0)
  have fc31_ := fc14_.keep Kc20_ (ninS ne2_ nin0)
  have Vw20_ : Arv Z h20_ b1_ k1_ .byte (28 : Int32) [(.int (0 : Int32)), (.int (0 : Int32)), (.int (0 : Int32)), (.int (0 : Int32)), (.int (0 : Int32)), (.int (0 : Int32)), (.int (0 : Int32)), (.int (0 : Int32)), (.int (0 : Int32)), (.int (0 : Int32)), (.int (0 : Int32)), (.int (0 : Int32)), (.int (0 : Int32)), (.int (0 : Int32)), (.int (0 : Int32)), (.int (0 : Int32)), (.int (0 : Int32)), (.int (0 : Int32)), (.int (0 : Int32)), (.int (0 : Int32)), (.int (0 : Int32)), (.int (0 : Int32)), (.int (0 : Int32)), (.int (0 : Int32)), (.int (0 : Int32)), (.int (0 : Int32)), (.int (0 : Int32)), (.int (0 : Int32))] (.int (0 : Int32)) := V20_
  have K20_ := K1_.trans Kc20_ (allS (Or.inr sz_b1_) all0)
  refine own_fin st20_ ?_
  refine jg T20_ mM 37 ll2 [(.ref a)] (fun tT kK => ?_) ?_
  · refine XS.aloadN X20_.here hx rfl (hC e18_33.2.1) rfl rfl ?_
    exact kK
  refine jf X20_ hx hZ hown (jk hw 64 rfl) e20_ fc28_ (hC e18_33.2.2.1) fun T33_ X33_ e33_ => ?_
  refine jg T33_ mM 58 ll2 [(.ref a), (.ref a)] (fun tT kK => ?_) ?_
  · refine XS.ifYes X33_.here hx rfl (pc0 := 40) (pc' := 56) rfl (hC e18_33.2.2.2) rfl ((if0 _ _).trans (tlt ((by decide) : (-1 : Int32) < (0 : Int32))).1) (by decide) (by decide) ?_
    refine XS.aloadN X33_.here hx rfl (hC e18_56.1) rfl rfl ?_
    refine XS.dup X33_.here hx rfl (hC e18_56.2.1) rfl rfl ?_
    exact kK
  refine jf X33_ hx hZ hown (jk hw 105 rfl) e33_ fc27_ (hC e18_56.2.2.1) fun T34_ X34_ e34_ => ?_
  refine jg T34_ mM 62 ll2 [(.ref a), (.int (0 : Int32)), (.ref a)] (fun tT kK => ?_) ?_
  · refine XS.aloadN X34_.here hx rfl (hC e18_56.2.2.2) rfl rfl ?_
    exact kK
  refine jf X34_ hx hZ hown (jk hw 107 rfl) e34_ fc26_ (hC e18_62.1) fun T35_ X35_ e35_ => ?_
  refine jg T35_ mM 66 ll2 [(.int (0 : Int32)), (.ref a)] (fun tT kK => ?_) ?_
  · refine XS.isub X35_.here hx rfl (hC e18_62.2.1) rfl ?_
    exact kK
  refine jq X35_ hx hZ hown (jk hw 105 rfl) e35_ fc27_ fc21_ (jk hw 106 rfl) (jk hw 54 rfl) (ty := .int) (by decide) rfl rfl (hC e18_62.2.2.1) K20_ N20_ (Or.inl (List.mem_of_getElem? (i := 0) rfl)) g_a fun T36_ h36_ X36_ e36_ W36_ Fw36_ K36_ N36_ => ?_
  have fc37_ := fc21_.wr W36_
  have fc38_ := fc22_.other W36_ (Or.inr (js23 hw))
  have fc39_ := fc23_.other W36_ (Or.inr (js24 hw))
  have fc40_ := fc24_.other W36_ (Or.inr (js25 hw))
  have fc41_ := fc25_.other W36_ (Or.inr (js9 hw).symm)
  have fc42_ := fc26_.other W36_ (Or.inr (js26 hw))
  have fc43_ := fc28_.other W36_ (Or.inr (js18 hw).symm)
  have fc44_ := fc29_.other W36_ (Or.inr (js27 hw))
  have fc45_ := fc30_.other W36_ (Or.inr (js28 hw))
  have fc46_ := fc31_.other W36_ (Or.inr (js29 hw))
  have fc48_ := Vw20_.other W36_ (Ne.symm ne2_)
  refine jg T36_ mM 71 ll2 [(.int (0 : Int32)), (.ref a)] (fun tT kK => ?_) ?_
  · refine XS.aloadN X36_.here hx rfl (hC e18_62.2.2.2) rfl rfl ?_
    refine XS.iconst X36_.here hx rfl (hC e18_70.1) ?_
    exact kK
  refine jq X36_ hx hZ hown (jk hw 107 rfl) e36_ fc42_ fc37_ (jk hw 108 rfl) (jk hw 54 rfl) (ty := .int) (by decide) rfl rfl (hC e18_70.2) K36_ N36_ (Or.inl (List.mem_of_getElem? (i := 0) rfl)) g_a fun T49_ h49_ X49_ e49_ W49_ Fw49_ K49_ N49_ => ?_
  have fc50_ := fc37_.wr W49_
  have fc51_ := fc38_.other W49_ (Or.inr (js30 hw))
  have fc52_ := fc39_.other W49_ (Or.inr (js31 hw))
  have fc53_ := fc40_.other W49_ (Or.inr (js32 hw))
  have fc54_ := fc41_.other W49_ (Or.inr (js8 hw).symm)
  have fc55_ := Fw36_.other W49_ (Or.inr (js26 hw).symm)
  have fc56_ := fc43_.other W49_ (Or.inr (js17 hw).symm)
  have fc57_ := fc44_.other W49_ (Or.inr (js33 hw))
  have fc58_ := fc45_.other W49_ (Or.inr (js34 hw))
  have fc59_ := fc46_.other W49_ (Or.inr (js35 hw))
  have fc61_ := fc48_.other W49_ (Ne.symm ne2_)
  refine jg T49_ mM 76 ll2 [(.ref b1_), (.ref a)] (fun tT kK => ?_) ?_
  · refine XS.aloadN X49_.here hx rfl (hC e18_74.1) rfl rfl ?_
    refine XS.aloadN X49_.here hx rfl (hC e18_74.2.1) rfl rfl ?_
    exact kK
  refine jq X49_ hx hZ hown (jk hw 62 rfl) e49_ fc54_ fc50_ (jk hw 63 rfl) (jk hw 54 rfl) (ty := (.array .byte)) (by decide) rfl rfl (hC e18_74.2.2.1) K49_ N49_ (Or.inl (List.mem_of_getElem? (i := 0) rfl)) g_a fun T62_ h62_ X62_ e62_ W62_ Fw62_ K62_ N62_ => ?_
  have fc63_ := fc50_.wr W62_
  have fc64_ := fc51_.other W62_ (Or.inr (js5 hw))
  have fc65_ := fc52_.other W62_ (Or.inr (js6 hw))
  have fc66_ := fc53_.other W62_ (Or.inr (js7 hw))
  have fc67_ := Fw49_.other W62_ (Or.inr (js8 hw))
  have fc68_ := fc55_.other W62_ (Or.inr (js9 hw))
  have fc69_ := fc56_.other W62_ (Or.inr (js10 hw))
  have fc70_ := fc57_.other W62_ (Or.inr (js11 hw))
  have fc71_ := fc58_.other W62_ (Or.inr (js12 hw))
  have fc72_ := fc59_.other W62_ (Or.inr (js13 hw))
  have fc74_ := fc61_.other W62_ (Ne.symm ne2_)
  exact own_rV X62_ hx hlk hre (hC e18_74.2.2.2) e62_ (by decide) (by decide) ⟨b1_, k1_, [(.int (0 : Int32)), (.int (0 : Int32)), (.int (0 : Int32)), (.int (0 : Int32)), (.int (0 : Int32)), (.int (0 : Int32)), (.int (0 : Int32)), (.int (0 : Int32)), (.int (0 : Int32)), (.int (0 : Int32)), (.int (0 : Int32)), (.int (0 : Int32)), (.int (0 : Int32)), (.int (0 : Int32)), (.int (0 : Int32)), (.int (0 : Int32)), (.int (0 : Int32)), (.int (0 : Int32)), (.int (0 : Int32)), (.int (0 : Int32)), (.int (0 : Int32)), (.int (0 : Int32)), (.int (0 : Int32)), (.int (0 : Int32)), (.int (0 : Int32)), (.int (0 : Int32)), (.int (0 : Int32)), (.int (0 : Int32))], rfl, N62_, K62_, sz_b1_, rfl, fc63_, fc64_, fc65_, fc66_, Fw62_, fc67_, fc68_, fc69_, fc70_, fc71_, fc72_, fc74_⟩
theorem e16_0 : jD13 0 (.aload_n 0, 1) ∧ jD13 1 (.getfield 35, 3) ∧ jD13 4 (.iload_n 1, 1) ∧ jD13 5 (.iadd, 1) := by decide +kernel
theorem e16_6 : jD13 6 (.aload_n 0, 1) ∧ jD13 7 (.getfield 13, 3) ∧ jD13 10 (.arraylength, 1) ∧ jD13 11 (.if_icmp .le 21, 3) := by decide +kernel
theorem e16_14 : jD13 14 (.aload_n 0, 1) ∧ jD13 15 (.aload_n 0, 1) ∧ jD13 16 (.getfield 35, 3) ∧ jD13 19 (.aload_n 0, 1) := by decide +kernel
theorem e16_20 : jD13 20 (.getfield 38, 3) ∧ jD13 23 (.isub, 1) ∧ jD13 24 (.iload_n 1, 1) ∧ jD13 25 (.iadd, 1) := by decide +kernel
theorem d16_26 : jD13 26 (.invokestatic 129, 3) := by decide +kernel
theorem own_pd2 : parseMethodDescriptor "(I)I" = some ⟨[.int], some .int⟩ := by decide +kernel
theorem d16_29 : jD13 29 (.invokevirtual 126, 3) := by decide +kernel
theorem own_pd3 : parseMethodDescriptor "(I)V" = some ⟨[.int], none⟩ := by decide +kernel
theorem d16_32 : jD13 32 (.return_, 1) := by decide +kernel
theorem own_ef_rm_mr1 (mM : MethodId) (x0 : Addr) (x1 : Int32) : entryFrame mM #[(.ref x0), (.int x1)] 2 = mkF mM 0 #[.val (.ref x0), .val (.int x1)] [] := by first | (simp [entryFrame, mkF, argsToLocals, Value.category]; done) | rfl
def Q_rm_mr1 (Z : State) (a : Addr) (nb : Addr) (kn : ClassId) (sz : Int64) (ff : Int64) (ft : Int64) (lg : Int64) (lf : Int64) (lt : Int64) (h0 : Heap) (n0 : Nat) (vV : Option Value) (hH : Heap) (lA : List Loc) : Prop := ∃ ba : Addr, ∃ kb : ClassId, ∃ vs : List Value, vV = none ∧ Fr n0 lA ∧ (Keep h0 hH [a]) ∧ (h0.size ≤ ba) ∧ (vs.length = 28) ∧ (jE1 Z hH a) ∧ (jF11 Z hH a (.long sz)) ∧ (jF2 Z hH a (.long ff)) ∧ (jF4 Z hH a (.long ft)) ∧ (jF12 Z hH a (.ref ba)) ∧ (jF8 Z hH a (.int (0 : Int32))) ∧ (jF7 Z hH a (.int (0 : Int32))) ∧ (jF3 Z hH a (.int (-1 : Int32))) ∧ (jF13 Z hH a (.long lg)) ∧ (jF6 Z hH a (.long lf)) ∧ (jF5 Z hH a (.long lt)) ∧ (Arv Z hH ba kb .byte (28 : Int32) vs (.int (0 : Int32)))
set_option maxRecDepth 65536 in
set_option maxHeartbeats 40000000 in
theorem rm_mr1 (lL : Launch) (Z : State) (a0 : Array Value) (hw : own_H a0 Z) (ws : List Jvm.Cond) (a : Addr) (nb : Addr) (kn : ClassId) (sz : Int64) (ff : Int64) (ft : Int64) (lg : Int64) (lf : Int64) (lt : Int64) (h0 : Heap) (n0 : Nat) (Z0 : n0 ≤ h0.size) (F0 : jE1 Z h0 a) (F1 : jF11 Z h0 a (.long sz)) (F2 : jF2 Z h0 a (.long ff)) (F3 : jF4 Z h0 a (.long ft)) (F4 : jF12 Z h0 a (.ref nb)) (F5 : jF8 Z h0 a (.int (0 : Int32))) (F6 : jF7 Z h0 a (.int (0 : Int32))) (F7 : jF3 Z h0 a (.int (-1 : Int32))) (F8 : jF13 Z h0 a (.long lg)) (F9 : jF6 Z h0 a (.long lf)) (F10 : jF5 Z h0 a (.long lt)) (Vn : Arv Z h0 nb kn .byte (0 : Int32) [] (.int (0 : Int32))) (g_a : n0 ≤ a) (ne_a_nb : a ≠ nb) :
    own_Met lL jy13 (Jvm.Cond.code jy13 prog_39_method_16_code 2 none :: ws) jr7 #[(.ref a), (.int (19 : Int32))] Z h0 (Q_rm_mr1 Z a nb kn sz ff ft lg lf lt h0 n0) := by
  refine own_begin (plainFor_of_name own_pn_com_example_portion_portion_server_OffsetSet_Page) (fun mM => own_ef_rm_mr1 mM a (19 : Int32)) fun pP eE sS mM below meth cC s₁ hx hby hml hZ hown hnm hre hlk X0 e0 => ?_
  have hC := @Jvm.hb _ _ hby
  have N0 := Fr.nil n0
  have K0 := Keep.refl h0 [a]
  refine jg s₁ mM 1 #[vR a, vI 19] [(.ref a)] (fun tT kK => ?_) ?_
  · refine XS.aloadN X0.here hx rfl (hC e16_0.1) rfl rfl ?_
    exact kK
  refine jf X0 hx hZ hown (jk hw 105 rfl) e0 F6 (hC e16_0.2.1) fun T1_ X1_ e1_ => ?_
  refine jg T1_ mM 7 #[vR a, vI 19] [(.ref a), (.int (19 : Int32))] (fun tT kK => ?_) ?_
  · refine XS.iloadN X1_.here hx rfl (hC e16_0.2.2.1) rfl ?_
    refine XS.iadd X1_.here hx rfl (hC e16_0.2.2.2) rfl ?_
    refine XS.aloadN X1_.here hx rfl (hC e16_6.1) rfl rfl ?_
    exact kK
  refine jf X1_ hx hZ hown (jk hw 62 rfl) e1_ F4 (hC e16_6.2.1) fun T2_ X2_ e2_ => ?_
  obtain ⟨cl3_, Ar3_, qk3_, Sz3_, Nn3_, Hh3_, Gg3_⟩ := id Vn
  refine jg T2_ mM 16 #[vR a, vI 19] [(.ref a), (.ref a)] (fun tT kK => ?_) ?_
  · refine X2_.arraylength hx (own_rw e2_ Ar3_.1) (State.isArrayOf_alike hZ.alike Ar3_.2.1) (g := (mkF mM 10 #[vR a, vI 19] [(.ref nb), (.int (19 : Int32))])) rfl rfl (hC e16_6.2.2.1) _ ?_
    rw [len_of Sz3_ Nn3_]
    refine XS.icmpNo X2_.here hx rfl (hC e16_6.2.2.2) rfl (tlt ((by decide) : (0 : Int32) < (19 : Int32))).2.2.2 ?_
    refine XS.aloadN X2_.here hx rfl (hC e16_14.1) rfl rfl ?_
    refine XS.aloadN X2_.here hx rfl (hC e16_14.2.1) rfl rfl ?_
    exact kK
  refine jf X2_ hx hZ hown (jk hw 105 rfl) e2_ F6 (hC e16_14.2.2.1) fun T4_ X4_ e4_ => ?_
  refine jg T4_ mM 20 #[vR a, vI 19] [(.ref a), (.int (0 : Int32)), (.ref a)] (fun tT kK => ?_) ?_
  · refine XS.aloadN X4_.here hx rfl (hC e16_14.2.2.2) rfl rfl ?_
    exact kK
  refine jf X4_ hx hZ hown (jk hw 107 rfl) e4_ F5 (hC e16_20.1) fun T5_ X5_ e5_ => ?_
  refine jg T5_ mM 26 #[vR a, vI 19] [(.int (19 : Int32)), (.ref a)] (fun tT kK => ?_) ?_
  · refine XS.isub X5_.here hx rfl (hC e16_20.2.1) rfl ?_
    refine XS.iloadN X5_.here hx rfl (hC e16_20.2.2.1) rfl ?_
    refine XS.iadd X5_.here hx rfl (hC e16_20.2.2.2) rfl ?_
    exact kK
  refine jc X5_ hx hZ (y := jy11) hown (jk hw 113 rfl) (jk hw 114 rfl) (jk hw 55 rfl) (jk hw 115 rfl) (rm_wr lL Z a0 hw []  h0 n0 (Nat.le_trans Z0 K0.1) ) e5_ own_pd2 [(.int (19 : Int32))] [(.ref a)] (hC d16_26) rfl rfl (by rw [hml]; rfl) (by decide) 1 (Nat.le_of_eq rfl) (by decide) (by decide) (by decide : 0 + 0 ≤ _) (by decide : 0 + 0 ≤ _) fun vv6_ T6_ L6_ X6_ hQ6_ => ?_
  obtain ⟨rfl, N6_q, p6__0⟩ := hQ6_
  have N6_ := Fr.app N0 N6_q
  refine jw X6_ hx hZ (y := jy12) hown (jk hw 117 rfl) (jk hw 118 rfl) (own_selP (y := jy12) hZ (jk hw 54 rfl) (jk hw 119 rfl) (jk hw 118 rfl) (by decide)) (jk hw 119 rfl) (jk hw 120 rfl) (jk hw 55 rfl) (rm_mv1 lL Z a0 hw [] a nb kn sz ff ft lg lf lt h0 n0 (Nat.le_trans Z0 K0.1) F0 F1 F2 F3 F4 F5 F6 F7 F8 F9 F10 Vn g_a ne_a_nb) F0 p6__0 own_pd3 [(.int (28 : Int32))] [] (hC d16_29) rfl rfl (by rw [hml]; rfl) (by decide) 0 (Nat.le_of_eq rfl) (by decide) (by decide) (by decide : 0 + 1 ≤ _) (by decide : 0 + 28 ≤ _) fun vv7_ T7_ L7_ X7_ hQ7_ => ?_
  obtain ⟨ba_7_, kb_7_, vs_7_, rfl, N7_q, p7__0, p7__1, p7__2, p7__3, p7__4, p7__5, p7__6, p7__7, p7__8, p7__9, p7__10, p7__11, p7__12, p7__13, p7__14⟩ := hQ7_
  have N7_ := Fr.app N6_ N7_q
  have sz_ba_7_ : h0.size ≤ ba_7_ := Nat.le_trans K0.1 p7__1
  have K7_ := K0.trans p7__0 (allS (Or.inl (List.mem_of_getElem? (i := 0) rfl)) all0)
  exact own_rV X7_ hx hlk hre (hC d16_32) rfl (by decide) (by decide) ⟨ba_7_, kb_7_, vs_7_, rfl, N7_, K7_, sz_ba_7_, p7__2, p7__3, p7__4, p7__5, p7__6, p7__7, p7__8, p7__9, p7__10, p7__11, p7__12, p7__13, p7__14⟩
theorem own_ef_rm_mr2 (mM : MethodId) (x0 : Addr) (x1 : Int32) : entryFrame mM #[(.ref x0), (.int x1)] 2 = mkF mM 0 #[.val (.ref x0), .val (.int x1)] [] := by first | (simp [entryFrame, mkF, argsToLocals, Value.category]; done) | rfl
def Q_rm_mr2 (Z : State) (a : Addr) (ba : Addr) (kb : ClassId) (en : Int32) (vs : List Value) (h0 : Heap) (n0 : Nat) (vV : Option Value) (hH : Heap) (lA : List Loc) : Prop := vV = none ∧ Fr n0 lA ∧ (hH = h0)
set_option maxRecDepth 65536 in
set_option maxHeartbeats 40000000 in
theorem rm_mr2 (lL : Launch) (Z : State) (a0 : Array Value) (hw : own_H a0 Z) (ws : List Jvm.Cond) (a : Addr) (ba : Addr) (kb : ClassId) (en : Int32) (vs : List Value) (h0 : Heap) (n0 : Nat) (Z0 : n0 ≤ h0.size) (Fe : jF7 Z h0 a (.int en)) (Fb : jF12 Z h0 a (.ref ba)) (Vb : Arv Z h0 ba kb .byte (28 : Int32) vs (.int (0 : Int32))) (he : 0 ≤ en.toInt ∧ en.toInt ≤ 7) :
    own_Met lL jy13 (Jvm.Cond.code jy13 prog_39_method_16_code 2 none :: ws) jr0 #[(.ref a), (.int (19 : Int32))] Z h0 (Q_rm_mr2 Z a ba kb en vs h0 n0) := by
  refine own_begin (plainFor_of_name own_pn_com_example_portion_portion_server_OffsetSet_Page) (fun mM => own_ef_rm_mr2 mM a (19 : Int32)) fun pP eE sS mM below meth cC s₁ hx hby hml hZ hown hnm hre hlk X0 e0 => ?_
  have hC := @Jvm.hb _ _ hby
  have N0 := Fr.nil n0
  have K0 := Keep.refl h0 ([] : List Addr)
  refine jg s₁ mM 1 #[vR a, vI 19] [(.ref a)] (fun tT kK => ?_) ?_
  · refine XS.aloadN X0.here hx rfl (hC e16_0.1) rfl rfl ?_
    exact kK
  refine jf X0 hx hZ hown (jk hw 105 rfl) e0 Fe (hC e16_0.2.1) fun T1_ X1_ e1_ => ?_
  refine jg T1_ mM 7 #[vR a, vI 19] [(.ref a), (.int (en + (19 : Int32)))] (fun tT kK => ?_) ?_
  · refine XS.iloadN X1_.here hx rfl (hC e16_0.2.2.1) rfl ?_
    refine XS.iadd X1_.here hx rfl (hC e16_0.2.2.2) rfl ?_
    refine XS.aloadN X1_.here hx rfl (hC e16_6.1) rfl rfl ?_
    exact kK
  refine jf X1_ hx hZ hown (jk hw 62 rfl) e1_ Fb (hC e16_6.2.1) fun T2_ X2_ e2_ => ?_
  obtain ⟨cl3_, Ar3_, qk3_, Sz3_, Nn3_, Hh3_, Gg3_⟩ := id Vb
  refine jg T2_ mM 32 #[vR a, vI 19] [] (fun tT kK => ?_) ?_
  · refine X2_.arraylength hx (own_rw e2_ Ar3_.1) (State.isArrayOf_alike hZ.alike Ar3_.2.1) (g := (mkF mM 10 #[vR a, vI 19] [(.ref ba), (.int (en + (19 : Int32)))])) rfl rfl (hC e16_6.2.2.1) _ ?_
    rw [len_of Sz3_ Nn3_]
    refine XS.icmpYes X2_.here hx rfl (pc0 := 11) (pc' := 32) rfl (hC e16_6.2.2.2) rfl (flt (own_mr he : ¬ ((28 : Int32) < (en + (19 : Int32))))).2.2.2 (by decide) (by decide) ?_
    exact kK
  exact own_rV X2_ hx hlk hre (hC d16_32) e2_ (by decide) (by decide) ⟨rfl, N0, rfl⟩
theorem e12_0 : jD14 0 (.aload_n 0, 1) ∧ jD14 1 (.invokevirtual 41, 3) := by decide +kernel
theorem own_pd4 : parseMethodDescriptor "()J" = some ⟨[], some .long⟩ := by decide +kernel
theorem e12_4 : jD14 4 (.lstore 5, 2) ∧ jD14 6 (.aload_n 0, 1) ∧ jD14 7 (.getfield 45, 3) ∧ jD14 10 (.lconst 0, 1) := by decide +kernel
theorem e12_11 : jD14 11 (.lcmp, 1) ∧ jD14 12 (.ifCond .ne 23, 3) ∧ jD14 15 (.aload_n 0, 1) ∧ jD14 16 (.lload_n 1, 1) := by decide +kernel
theorem d12_17 : jD14 17 (.putfield 22, 3) := by decide +kernel
theorem js36 {Z : State} {a0 : Array Value} (hw : own_H a0 Z) : jQ4 Z ≠ jQ6 Z := slot_ne (Or.inl (jk hw 77 rfl)) (Or.inl (jk hw 92 rfl)) (by decide) (t := .long) (t' := .long) (by decide) (by decide)
theorem js37 {Z : State} {a0 : Array Value} (hw : own_H a0 Z) : jQ7 Z ≠ jQ6 Z := slot_ne (Or.inl (jk hw 89 rfl)) (Or.inl (jk hw 92 rfl)) (by decide) (t := .long) (t' := .long) (by decide) (by decide)
theorem js38 {Z : State} {a0 : Array Value} (hw : own_H a0 Z) : jQ11 Z ≠ jQ6 Z := slot_ne (Or.inl (jk hw 124 rfl)) (Or.inl (jk hw 92 rfl)) (by decide) (t := .long) (t' := .long) (by decide) (by decide)
theorem js39 {Z : State} {a0 : Array Value} (hw : own_H a0 Z) : jQ12 Z ≠ jQ6 Z := slot_ne (Or.inl (jk hw 126 rfl)) (Or.inl (jk hw 92 rfl)) (by decide) (t := .long) (t' := .long) (by decide) (by decide)
theorem js40 {Z : State} {a0 : Array Value} (hw : own_H a0 Z) : jQ13 Z ≠ jQ6 Z := slot_ne (Or.inl (jk hw 128 rfl)) (Or.inl (jk hw 92 rfl)) (by decide) (t := .long) (t' := .long) (by decide) (by decide)
theorem e12_20 : jD14 20 (.aload_n 0, 1) ∧ jD14 21 (.lload_n 3, 1) ∧ jD14 22 (.putfield 29, 3) := by decide +kernel
theorem js41 {Z : State} {a0 : Array Value} (hw : own_H a0 Z) : jQ4 Z ≠ jQ7 Z := slot_ne (Or.inl (jk hw 77 rfl)) (Or.inl (jk hw 89 rfl)) (by decide) (t := .long) (t' := .long) (by decide) (by decide)
theorem js42 {Z : State} {a0 : Array Value} (hw : own_H a0 Z) : jQ11 Z ≠ jQ7 Z := slot_ne (Or.inl (jk hw 124 rfl)) (Or.inl (jk hw 89 rfl)) (by decide) (t := .long) (t' := .long) (by decide) (by decide)
theorem js43 {Z : State} {a0 : Array Value} (hw : own_H a0 Z) : jQ12 Z ≠ jQ7 Z := slot_ne (Or.inl (jk hw 126 rfl)) (Or.inl (jk hw 89 rfl)) (by decide) (t := .long) (t' := .long) (by decide) (by decide)
theorem js44 {Z : State} {a0 : Array Value} (hw : own_H a0 Z) : jQ13 Z ≠ jQ7 Z := slot_ne (Or.inl (jk hw 128 rfl)) (Or.inl (jk hw 89 rfl)) (by decide) (t := .long) (t' := .long) (by decide) (by decide)
theorem e12_25 : jD14 25 (.aload_n 0, 1) ∧ jD14 26 (.lload_n 3, 1) ∧ jD14 27 (.lload_n 1, 1) ∧ jD14 28 (.lsub, 1) := by decide +kernel
theorem d12_29 : jD14 29 (.putfield 45, 3) := by decide +kernel
theorem js45 {Z : State} {a0 : Array Value} (hw : own_H a0 Z) : jQ11 Z ≠ jQ4 Z := slot_ne (Or.inl (jk hw 124 rfl)) (Or.inl (jk hw 77 rfl)) (by decide) (t := .long) (t' := .long) (by decide) (by decide)
theorem js46 {Z : State} {a0 : Array Value} (hw : own_H a0 Z) : jQ12 Z ≠ jQ4 Z := slot_ne (Or.inl (jk hw 126 rfl)) (Or.inl (jk hw 77 rfl)) (by decide) (t := .long) (t' := .long) (by decide) (by decide)
theorem js47 {Z : State} {a0 : Array Value} (hw : own_H a0 Z) : jQ13 Z ≠ jQ4 Z := slot_ne (Or.inl (jk hw 128 rfl)) (Or.inl (jk hw 77 rfl)) (by decide) (t := .long) (t' := .long) (by decide) (by decide)
theorem e12_32 : jD14 32 (.goto 131, 3) ∧ jD14 163 (.return_, 1) := by decide +kernel
theorem own_ef_rm_exa (mM : MethodId) (x0 : Addr) (x1 : Int64) (x2 : Int64) : entryFrame mM #[(.ref x0), (.long x1), (.long x2)] 7 = mkF mM 0 #[.val (.ref x0), .val (.long x1), .second, .val (.long x2), .second, .unset, .unset] [] := by first | (simp [entryFrame, mkF, argsToLocals, Value.category]; done) | rfl
def Q_rm_exa (Z : State) (a : Addr) (nb : Addr) (f : Int64) (t : Int64) (h0 : Heap) (n0 : Nat) (vV : Option Value) (hH : Heap) (lA : List Loc) : Prop := vV = none ∧ Fr n0 lA ∧ (Keep h0 hH [a]) ∧ (jE1 Z hH a) ∧ (jF11 Z hH a (.long (t - f))) ∧ (jF2 Z hH a (.long f)) ∧ (jF4 Z hH a (.long t)) ∧ (jF12 Z hH a (.ref nb)) ∧ (jF8 Z hH a (.int (0 : Int32))) ∧ (jF7 Z hH a (.int (0 : Int32))) ∧ (jF3 Z hH a (.int (-1 : Int32))) ∧ (jF13 Z hH a (.long (0 : Int64))) ∧ (jF6 Z hH a (.long (0 : Int64))) ∧ (jF5 Z hH a (.long (0 : Int64)))
set_option maxRecDepth 65536 in
set_option maxHeartbeats 40000000 in
theorem rm_exa (lL : Launch) (Z : State) (a0 : Array Value) (hw : own_H a0 Z) (ws : List Jvm.Cond) (a : Addr) (nb : Addr) (f : Int64) (t : Int64) (h0 : Heap) (n0 : Nat) (Z0 : n0 ≤ h0.size) (F0 : jE1 Z h0 a) (F1 : jF11 Z h0 a (.long (0 : Int64))) (F2 : jF2 Z h0 a (.long (0 : Int64))) (F3 : jF4 Z h0 a (.long (0 : Int64))) (F4 : jF12 Z h0 a (.ref nb)) (F5 : jF8 Z h0 a (.int (0 : Int32))) (F6 : jF7 Z h0 a (.int (0 : Int32))) (F7 : jF3 Z h0 a (.int (-1 : Int32))) (F8 : jF13 Z h0 a (.long (0 : Int64))) (F9 : jF6 Z h0 a (.long (0 : Int64))) (F10 : jF5 Z h0 a (.long (0 : Int64))) (g_a : n0 ≤ a) :
    own_Met lL jy14 (Jvm.Cond.code jy14 prog_39_method_5_code 7 none :: ws) jr1 #[(.ref a), (.long f), (.long t)] Z h0 (Q_rm_exa Z a nb f t h0 n0) := by
  refine own_begin (plainFor_of_name own_pn_com_example_portion_portion_server_OffsetSet_Page) (fun mM => own_ef_rm_exa mM a f t) fun pP eE sS mM below meth cC s₁ hx hby hml hZ hown hnm hre hlk X0 e0 => ?_
  have hC := @Jvm.hb _ _ hby
  have N0 := Fr.nil n0
  have K0 := Keep.refl h0 [a]
  let ll1 : Array Slot := #[vR a, vJ f, vS, vJ t, vS, vU, vU]
  refine jg s₁ mM 1 ll1 [(.ref a)] (fun tT kK => ?_) ?_
  · refine XS.aloadN X0.here hx rfl (hC e12_0.1) rfl rfl ?_
    exact kK
  refine jv X0 hx hZ (y := jy3) hown (jk hw 83 rfl) (jk hw 84 rfl) (jk hw 86 rfl) (jk hw 85 rfl) (jk hw 87 rfl) (jk hw 55 rfl) (rm_lta lL Z a0 hw [] a (0 : Int64) h0 n0 (Nat.le_trans Z0 K0.1) F7 F3) F0 e0 own_pd4 [] [] (hC e12_0.2) rfl rfl (by rw [hml]; rfl) (by decide) 0 (Nat.le_of_eq rfl) (by decide) (by decide) (by decide : 0 + 0 ≤ _) (by decide : 0 + 0 ≤ _) fun vv1_ T1_ L1_ X1_ hQ1_ => ?_
  obtain ⟨rfl, N1_q, p1__0⟩ := hQ1_
  have N1_ := Fr.app N0 N1_q
  let ll2 : Array Slot := #[vR a, vJ f, vS, vJ t, vS, vJ 0, vS]
  refine jg T1_ mM 7 ll2 [(.ref a)] (fun tT kK => ?_) ?_
  · refine XS.lstore X1_.here hx rfl (hC e12_4.1) rfl (l' := ll2) rfl ?_
    refine XS.aloadN X1_.here hx rfl (hC e12_4.2.1) rfl rfl ?_
    exact kK
  refine jf X1_ hx hZ hown (jk hw 90 rfl) p1__0 F1 (hC e12_4.2.2.1) fun T2_ X2_ e2_ => ?_
  refine jg T2_ mM 17 ll2 [(.long f), (.ref a)] (fun tT kK => ?_) ?_
  · refine XS.lconst X2_.here hx rfl (hC e12_4.2.2.2) ?_
    refine XS.lcmp X2_.here hx rfl (hC e12_11.1) rfl ?_
    refine XS.ifNo X2_.here hx rfl (hC e12_11.2.1) rfl ((if0 _ _).trans (teq ((lw_eq (0 : Int64) (0 : Int64)).mpr ((by decide) : (0 : Int64) = (0 : Int64)))).2) ?_
    refine XS.aloadN X2_.here hx rfl (hC e12_11.2.2.1) rfl rfl ?_
    refine XS.lloadN X2_.here hx rfl (hC e12_11.2.2.2) rfl ?_
    exact kK
  refine jq X2_ hx hZ hown (jk hw 91 rfl) e2_ F2 F0 (jk hw 92 rfl) (jk hw 54 rfl) (ty := .long) (by decide) rfl rfl (hC d12_17) K0 N1_ (Or.inl (List.mem_of_getElem? (i := 0) rfl)) g_a fun T3_ h3_ X3_ e3_ W3_ Fw3_ K3_ N3_ => ?_
  have fc4_ := F0.wr W3_
  have fc5_ := F1.other W3_ (Or.inr (js36 hw))
  have fc6_ := F3.other W3_ (Or.inr (js37 hw))
  have fc7_ := F4.other W3_ (Or.inr (js6 hw).symm)
  have fc8_ := F5.other W3_ (Or.inr (js31 hw).symm)
  have fc9_ := F6.other W3_ (Or.inr (js24 hw).symm)
  have fc10_ := F7.other W3_ (Or.inr (js15 hw).symm)
  have fc11_ := F8.other W3_ (Or.inr (js38 hw))
  have fc12_ := F9.other W3_ (Or.inr (js39 hw))
  have fc13_ := F10.other W3_ (Or.inr (js40 hw))
  refine jg T3_ mM 22 ll2 [(.long t), (.ref a)] (fun tT kK => ?_) ?_
  · refine XS.aloadN X3_.here hx rfl (hC e12_20.1) rfl rfl ?_
    refine XS.lloadN X3_.here hx rfl (hC e12_20.2.1) rfl ?_
    exact kK
  refine jq X3_ hx hZ hown (jk hw 88 rfl) e3_ fc6_ fc4_ (jk hw 89 rfl) (jk hw 54 rfl) (ty := .long) (by decide) rfl rfl (hC e12_20.2.2) K3_ N3_ (Or.inl (List.mem_of_getElem? (i := 0) rfl)) g_a fun T14_ h14_ X14_ e14_ W14_ Fw14_ K14_ N14_ => ?_
  have fc15_ := fc4_.wr W14_
  have fc16_ := fc5_.other W14_ (Or.inr (js41 hw))
  have fc17_ := Fw3_.other W14_ (Or.inr (js37 hw).symm)
  have fc18_ := fc7_.other W14_ (Or.inr (js7 hw).symm)
  have fc19_ := fc8_.other W14_ (Or.inr (js32 hw).symm)
  have fc20_ := fc9_.other W14_ (Or.inr (js25 hw).symm)
  have fc21_ := fc10_.other W14_ (Or.inr (js16 hw).symm)
  have fc22_ := fc11_.other W14_ (Or.inr (js42 hw))
  have fc23_ := fc12_.other W14_ (Or.inr (js43 hw))
  have fc24_ := fc13_.other W14_ (Or.inr (js44 hw))
  refine jg T14_ mM 29 ll2 [(.long (t - f)), (.ref a)] (fun tT kK => ?_) ?_
  · refine XS.aloadN X14_.here hx rfl (hC e12_25.1) rfl rfl ?_
    refine XS.lloadN X14_.here hx rfl (hC e12_25.2.1) rfl ?_
    refine XS.lloadN X14_.here hx rfl (hC e12_25.2.2.1) rfl ?_
    refine XS.lsub X14_.here hx rfl (hC e12_25.2.2.2) rfl ?_
    exact kK
  refine jq X14_ hx hZ hown (jk hw 90 rfl) e14_ fc16_ fc15_ (jk hw 77 rfl) (jk hw 54 rfl) (ty := .long) (by decide) rfl rfl (hC d12_29) K14_ N14_ (Or.inl (List.mem_of_getElem? (i := 0) rfl)) g_a fun T25_ h25_ X25_ e25_ W25_ Fw25_ K25_ N25_ => ?_
  have fc26_ := fc15_.wr W25_
  have fc27_ := fc17_.other W25_ (Or.inr (js36 hw).symm)
  have fc28_ := Fw14_.other W25_ (Or.inr (js41 hw).symm)
  have fc29_ := fc18_.other W25_ (Or.inr (js5 hw).symm)
  have fc30_ := fc19_.other W25_ (Or.inr (js30 hw).symm)
  have fc31_ := fc20_.other W25_ (Or.inr (js23 hw).symm)
  have fc32_ := fc21_.other W25_ (Or.inr (js14 hw).symm)
  have fc33_ := fc22_.other W25_ (Or.inr (js45 hw))
  have fc34_ := fc23_.other W25_ (Or.inr (js46 hw))
  have fc35_ := fc24_.other W25_ (Or.inr (js47 hw))
  refine jg T25_ mM 163 ll2 [] (fun tT kK => ?_) ?_
  · refine XS.goto X25_.here hx rfl (pc0 := 32) (pc' := 163) rfl (hC e12_32.1) (by decide) (by decide) ?_
    exact kK
  exact own_rV X25_ hx hlk hre (hC e12_32.2) e25_ (by decide) (by decide) ⟨rfl, N25_, K25_, fc26_, Fw25_, fc27_, fc28_, fc29_, fc30_, fc31_, fc32_, fc33_, fc34_, fc35_⟩
theorem e12_35 : jD14 35 (.lload_n 1, 1) ∧ jD14 36 (.lload 5, 2) ∧ jD14 38 (.lcmp, 1) ∧ jD14 39 (.ifCond .le 46, 3) := by decide +kernel
theorem e12_42 : jD14 42 (.aload_n 0, 1) ∧ jD14 43 (.bipush 19, 2) ∧ jD14 45 (.invokevirtual 48, 3) ∧ jD14 48 (.aload_n 0, 1) := by decide +kernel
theorem e12_49 : jD14 49 (.lload_n 1, 1) ∧ jD14 50 (.lload 5, 2) ∧ jD14 52 (.lsub, 1) ∧ jD14 53 (.putfield 52, 3) := by decide +kernel
theorem js48 {Z : State} {a0 : Array Value} (hw : own_H a0 Z) : jQ12 Z ≠ jQ11 Z := slot_ne (Or.inl (jk hw 126 rfl)) (Or.inl (jk hw 124 rfl)) (by decide) (t := .long) (t' := .long) (by decide) (by decide)
theorem js49 {Z : State} {a0 : Array Value} (hw : own_H a0 Z) : jQ13 Z ≠ jQ11 Z := slot_ne (Or.inl (jk hw 128 rfl)) (Or.inl (jk hw 124 rfl)) (by decide) (t := .long) (t' := .long) (by decide) (by decide)
theorem e12_56 : jD14 56 (.aload_n 0, 1) ∧ jD14 57 (.lload_n 1, 1) ∧ jD14 58 (.putfield 26, 3) := by decide +kernel
theorem js50 {Z : State} {a0 : Array Value} (hw : own_H a0 Z) : jQ13 Z ≠ jQ12 Z := slot_ne (Or.inl (jk hw 128 rfl)) (Or.inl (jk hw 126 rfl)) (by decide) (t := .long) (t' := .long) (by decide) (by decide)
theorem e12_61 : jD14 61 (.aload_n 0, 1) ∧ jD14 62 (.lload_n 3, 1) ∧ jD14 63 (.putfield 32, 3) ∧ jD14 66 (.aload_n 0, 1) := by decide +kernel
theorem d12_67 : jD14 67 (.invokevirtual 55, 3) := by decide +kernel
theorem own_pd5 : parseMethodDescriptor "()V" = some ⟨[], none⟩ := by decide +kernel
theorem e12_70 : jD14 70 (.aload_n 0, 1) ∧ jD14 71 (.dup, 1) ∧ jD14 72 (.getfield 45, 3) ∧ jD14 75 (.lload_n 3, 1) := by decide +kernel
theorem e12_76 : jD14 76 (.lload_n 1, 1) ∧ jD14 77 (.lsub, 1) ∧ jD14 78 (.ladd, 1) ∧ jD14 79 (.putfield 45, 3) := by decide +kernel
theorem d12_82 : jD14 82 (.goto 81, 3) := by decide +kernel
theorem own_ef_rm_exb (mM : MethodId) (x0 : Addr) (x1 : Int64) (x2 : Int64) : entryFrame mM #[(.ref x0), (.long x1), (.long x2)] 7 = mkF mM 0 #[.val (.ref x0), .val (.long x1), .second, .val (.long x2), .second, .unset, .unset] [] := by first | (simp [entryFrame, mkF, argsToLocals, Value.category]; done) | rfl
def Q_rm_exb (Z : State) (a : Addr) (nb : Addr) (kn : ClassId) (sz : Int64) (ff : Int64) (ft : Int64) (lg : Int64) (lf : Int64) (lt : Int64) (f : Int64) (t : Int64) (h0 : Heap) (n0 : Nat) (vV : Option Value) (hH : Heap) (lA : List Loc) : Prop := ∃ ba : Addr, ∃ kb : ClassId, ∃ en : Int32, ∃ vs : List Value, vV = none ∧ Fr n0 lA ∧ (Keep h0 hH [a]) ∧ (h0.size ≤ ba) ∧ (vs.length = 28) ∧ (1 ≤ en.toInt ∧ en.toInt ≤ 7) ∧ (jE1 Z hH a) ∧ (jF11 Z hH a (.long (sz + (t - f)))) ∧ (jF2 Z hH a (.long ff)) ∧ (jF4 Z hH a (.long ft)) ∧ (jF12 Z hH a (.ref ba)) ∧ (jF8 Z hH a (.int (0 : Int32))) ∧ (jF7 Z hH a (.int en)) ∧ (jF3 Z hH a (.int (0 : Int32))) ∧ (jF13 Z hH a (.long (f - ft))) ∧ (jF6 Z hH a (.long f)) ∧ (jF5 Z hH a (.long t)) ∧ (Arv Z hH ba kb .byte (28 : Int32) vs (.int (0 : Int32)))
set_option maxRecDepth 65536 in
set_option maxHeartbeats 40000000 in
theorem rm_exb (lL : Launch) (Z : State) (a0 : Array Value) (hw : own_H a0 Z) (ws : List Jvm.Cond) (a : Addr) (nb : Addr) (kn : ClassId) (sz : Int64) (ff : Int64) (ft : Int64) (lg : Int64) (lf : Int64) (lt : Int64) (f : Int64) (t : Int64) (h0 : Heap) (n0 : Nat) (Z0 : n0 ≤ h0.size) (F0 : jE1 Z h0 a) (F1 : jF11 Z h0 a (.long sz)) (F2 : jF2 Z h0 a (.long ff)) (F3 : jF4 Z h0 a (.long ft)) (F4 : jF12 Z h0 a (.ref nb)) (F5 : jF8 Z h0 a (.int (0 : Int32))) (F6 : jF7 Z h0 a (.int (0 : Int32))) (F7 : jF3 Z h0 a (.int (-1 : Int32))) (F8 : jF13 Z h0 a (.long lg)) (F9 : jF6 Z h0 a (.long lf)) (F10 : jF5 Z h0 a (.long lt)) (Vn : Arv Z h0 nb kn .byte (0 : Int32) [] (.int (0 : Int32))) (hs : ¬ (sz = (0 : Int64))) (h1 : ft < f) (hg : 1 ≤ (f - ft).toInt ∧ (f - ft).toInt ≤ 16777216) (hn : 1 ≤ (t - f).toInt ∧ (t - f).toInt ≤ 4096) (g_a : n0 ≤ a) (ne_a_nb : a ≠ nb) :
    own_Met lL jy14 (Jvm.Cond.code jy14 prog_39_method_5_code 7 none :: ws) jr8 #[(.ref a), (.long f), (.long t)] Z h0 (Q_rm_exb Z a nb kn sz ff ft lg lf lt f t h0 n0) := by
  refine own_begin (plainFor_of_name own_pn_com_example_portion_portion_server_OffsetSet_Page) (fun mM => own_ef_rm_exb mM a f t) fun pP eE sS mM below meth cC s₁ hx hby hml hZ hown hnm hre hlk X0 e0 => ?_
  have hC := @Jvm.hb _ _ hby
  have N0 := Fr.nil n0
  have K0 := Keep.refl h0 [a]
  let ll1 : Array Slot := #[vR a, vJ f, vS, vJ t, vS, vU, vU]
  refine jg s₁ mM 1 ll1 [(.ref a)] (fun tT kK => ?_) ?_
  · refine XS.aloadN X0.here hx rfl (hC e12_0.1) rfl rfl ?_
    exact kK
  refine jv X0 hx hZ (y := jy3) hown (jk hw 83 rfl) (jk hw 84 rfl) (jk hw 86 rfl) (jk hw 85 rfl) (jk hw 87 rfl) (jk hw 55 rfl) (rm_lta lL Z a0 hw [] a ft h0 n0 (Nat.le_trans Z0 K0.1) F7 F3) F0 e0 own_pd4 [] [] (hC e12_0.2) rfl rfl (by rw [hml]; rfl) (by decide) 0 (Nat.le_of_eq rfl) (by decide) (by decide) (by decide : 0 + 0 ≤ _) (by decide : 0 + 0 ≤ _) fun vv1_ T1_ L1_ X1_ hQ1_ => ?_
  obtain ⟨rfl, N1_q, p1__0⟩ := hQ1_
  have N1_ := Fr.app N0 N1_q
  let ll2 : Array Slot := #[vR a, vJ f, vS, vJ t, vS, vJ ft, vS]
  refine jg T1_ mM 7 ll2 [(.ref a)] (fun tT kK => ?_) ?_
  · refine XS.lstore X1_.here hx rfl (hC e12_4.1) rfl (l' := ll2) rfl ?_
    refine XS.aloadN X1_.here hx rfl (hC e12_4.2.1) rfl rfl ?_
    exact kK
  refine jf X1_ hx hZ hown (jk hw 90 rfl) p1__0 F1 (hC e12_4.2.2.1) fun T2_ X2_ e2_ => ?_
  refine jg T2_ mM 45 ll2 [(.int (19 : Int32)), (.ref a)] (fun tT kK => ?_) ?_
  · refine XS.lconst X2_.here hx rfl (hC e12_4.2.2.2) ?_
    refine XS.lcmp X2_.here hx rfl (hC e12_11.1) rfl ?_
    refine XS.ifYes X2_.here hx rfl (pc0 := 12) (pc' := 35) rfl (hC e12_11.2.1) rfl ((if0 _ _).trans (feq (mt (lw_eq sz (0 : Int64)).mp (hs : ¬ (sz = (0 : Int64))))).2) (by decide) (by decide) ?_
    refine XS.lloadN X2_.here hx rfl (hC e12_35.1) rfl ?_
    refine XS.lload X2_.here hx rfl (hC e12_35.2.1) rfl ?_
    refine XS.lcmp X2_.here hx rfl (hC e12_35.2.2.1) rfl ?_
    refine XS.ifNo X2_.here hx rfl (hC e12_35.2.2.2) rfl ((if0 _ _).trans (tlt ((lw_gt f ft).mpr (h1 : ft < f))).2.2.2) ?_
    refine XS.aloadN X2_.here hx rfl (hC e12_42.1) rfl rfl ?_
    refine XS.bipush X2_.here hx rfl (hC e12_42.2.1) ?_
    exact kK
  refine jw X2_ hx hZ (y := jy13) hown (jk hw 109 rfl) (jk hw 110 rfl) (own_selP (y := jy13) hZ (jk hw 54 rfl) (jk hw 111 rfl) (jk hw 110 rfl) (by decide)) (jk hw 111 rfl) (jk hw 112 rfl) (jk hw 55 rfl) (rm_mr1 lL Z a0 hw [] a nb kn sz ff ft lg lf lt h0 n0 (Nat.le_trans Z0 K0.1) F0 F1 F2 F3 F4 F5 F6 F7 F8 F9 F10 Vn g_a ne_a_nb) F0 e2_ own_pd3 [(.int (19 : Int32))] [] (hC e12_42.2.2.1) rfl rfl (by rw [hml]; rfl) (by decide) 0 (Nat.le_of_eq rfl) (by decide) (by decide) (by decide : 0 + 1 ≤ _) (by decide : 0 + 28 ≤ _) fun vv3_ T3_ L3_ X3_ hQ3_ => ?_
  obtain ⟨ba_3_, kb_3_, vs_3_, rfl, N3_q, p3__0, p3__1, p3__2, p3__3, p3__4, p3__5, p3__6, p3__7, p3__8, p3__9, p3__10, p3__11, p3__12, p3__13, p3__14⟩ := hQ3_
  have N3_ := Fr.app N1_ N3_q
  have sz_ba_3_ : h0.size ≤ ba_3_ := Nat.le_trans K0.1 p3__1
  have ge_ba_3_ : n0 ≤ ba_3_ := Nat.le_trans Z0 sz_ba_3_
  have ne4_ : a ≠ ba_3_ := Nat.ne_of_lt (Nat.lt_of_lt_of_le F0.lt p3__1)
  have K3_ := K0.trans p3__0 (allS (Or.inl (List.mem_of_getElem? (i := 0) rfl)) all0)
  refine jg T3_ mM 53 ll2 [(.long (f - ft)), (.ref a)] (fun tT kK => ?_) ?_
  · refine XS.aloadN X3_.here hx rfl (hC e12_42.2.2.2) rfl rfl ?_
    refine XS.lloadN X3_.here hx rfl (hC e12_49.1) rfl ?_
    refine XS.lload X3_.here hx rfl (hC e12_49.2.1) rfl ?_
    refine XS.lsub X3_.here hx rfl (hC e12_49.2.2.1) rfl ?_
    exact kK
  refine jq X3_ hx hZ hown (jk hw 123 rfl) rfl p3__11 p3__3 (jk hw 124 rfl) (jk hw 54 rfl) (ty := .long) (by decide) rfl rfl (hC e12_49.2.2.2) K3_ N3_ (Or.inl (List.mem_of_getElem? (i := 0) rfl)) g_a fun T8_ h8_ X8_ e8_ W8_ Fw8_ K8_ N8_ => ?_
  have fc9_ := p3__3.wr W8_
  have fc11_ := p3__4.other W8_ (Or.inr (js45 hw).symm)
  have fc12_ := p3__5.other W8_ (Or.inr (js38 hw).symm)
  have fc13_ := p3__6.other W8_ (Or.inr (js42 hw).symm)
  have fc14_ := p3__7.other W8_ (Or.inr (js11 hw).symm)
  have fc15_ := p3__8.other W8_ (Or.inr (js33 hw).symm)
  have fc16_ := p3__9.other W8_ (Or.inr (js27 hw).symm)
  have fc17_ := p3__10.other W8_ (Or.inr (js19 hw).symm)
  have fc18_ := p3__12.other W8_ (Or.inr (js48 hw))
  have fc19_ := p3__13.other W8_ (Or.inr (js49 hw))
  have fc20_ := p3__14.other W8_ (Ne.symm ne4_)
  refine jg T8_ mM 58 ll2 [(.long f), (.ref a)] (fun tT kK => ?_) ?_
  · refine XS.aloadN X8_.here hx rfl (hC e12_56.1) rfl rfl ?_
    refine XS.lloadN X8_.here hx rfl (hC e12_56.2.1) rfl ?_
    exact kK
  refine jq X8_ hx hZ hown (jk hw 125 rfl) e8_ fc18_ fc9_ (jk hw 126 rfl) (jk hw 54 rfl) (ty := .long) (by decide) rfl rfl (hC e12_56.2.2) K8_ N8_ (Or.inl (List.mem_of_getElem? (i := 0) rfl)) g_a fun T21_ h21_ X21_ e21_ W21_ Fw21_ K21_ N21_ => ?_
  have fc22_ := fc9_.wr W21_
  have fc24_ := fc11_.other W21_ (Or.inr (js46 hw).symm)
  have fc25_ := fc12_.other W21_ (Or.inr (js39 hw).symm)
  have fc26_ := fc13_.other W21_ (Or.inr (js43 hw).symm)
  have fc27_ := fc14_.other W21_ (Or.inr (js12 hw).symm)
  have fc28_ := fc15_.other W21_ (Or.inr (js34 hw).symm)
  have fc29_ := fc16_.other W21_ (Or.inr (js28 hw).symm)
  have fc30_ := fc17_.other W21_ (Or.inr (js20 hw).symm)
  have fc31_ := Fw8_.other W21_ (Or.inr (js48 hw).symm)
  have fc32_ := fc19_.other W21_ (Or.inr (js50 hw))
  have fc33_ := fc20_.other W21_ (Ne.symm ne4_)
  refine jg T21_ mM 63 ll2 [(.long t), (.ref a)] (fun tT kK => ?_) ?_
  · refine XS.aloadN X21_.here hx rfl (hC e12_61.1) rfl rfl ?_
    refine XS.lloadN X21_.here hx rfl (hC e12_61.2.1) rfl ?_
    exact kK
  refine jq X21_ hx hZ hown (jk hw 127 rfl) e21_ fc32_ fc22_ (jk hw 128 rfl) (jk hw 54 rfl) (ty := .long) (by decide) rfl rfl (hC e12_61.2.2.1) K21_ N21_ (Or.inl (List.mem_of_getElem? (i := 0) rfl)) g_a fun T34_ h34_ X34_ e34_ W34_ Fw34_ K34_ N34_ => ?_
  have fc35_ := fc22_.wr W34_
  have fc37_ := fc24_.other W34_ (Or.inr (js47 hw).symm)
  have fc38_ := fc25_.other W34_ (Or.inr (js40 hw).symm)
  have fc39_ := fc26_.other W34_ (Or.inr (js44 hw).symm)
  have fc40_ := fc27_.other W34_ (Or.inr (js13 hw).symm)
  have fc41_ := fc28_.other W34_ (Or.inr (js35 hw).symm)
  have fc42_ := fc29_.other W34_ (Or.inr (js29 hw).symm)
  have fc43_ := fc30_.other W34_ (Or.inr (js21 hw).symm)
  have fc44_ := fc31_.other W34_ (Or.inr (js49 hw).symm)
  have fc45_ := Fw21_.other W34_ (Or.inr (js50 hw).symm)
  have fc46_ := fc33_.other W34_ (Ne.symm ne4_)
  refine jg T34_ mM 67 ll2 [(.ref a)] (fun tT kK => ?_) ?_
  · refine XS.aloadN X34_.here hx rfl (hC e12_61.2.2.2) rfl rfl ?_
    exact kK
  refine jw X34_ hx hZ (y := jy10) hown (jk hw 129 rfl) (jk hw 130 rfl) (own_selP (y := jy10) hZ (jk hw 54 rfl) (jk hw 131 rfl) (jk hw 130 rfl) (by decide)) (jk hw 131 rfl) (jk hw 132 rfl) (jk hw 55 rfl) (rm_wl lL Z a0 hw [] a ba_3_ kb_3_ sz ff ft (f - ft) f t (0 : Int32) (-1 : Int32) vs_3_ h34_ n0 (Nat.le_trans Z0 K34_.1) fc35_ fc37_ fc38_ fc39_ fc40_ fc41_ fc42_ fc43_ fc44_ fc45_ Fw34_ fc46_ p3__2 (by rw [own_i0]; omega) hg hn g_a ge_ba_3_ ne4_) fc35_ e34_ own_pd5 [] [] (hC d12_67) rfl rfl (by rw [hml]; rfl) (by decide) 0 (Nat.le_of_eq rfl) (by decide) (by decide) (by decide : 1 + 0 ≤ _) (by decide : 28 + 0 ≤ _) fun vv47_ T47_ L47_ X47_ hQ47_ => ?_
  obtain ⟨en'_47_, vs'_47_, rfl, N47_q, p47__0, p47__1, p47__2, p47__3, p47__4, p47__5, p47__6, p47__7, p47__8, p47__9, p47__10, p47__11, p47__12, p47__13, p47__14⟩ := hQ47_
  have N47_ := Fr.app N34_ N47_q
  have K47_ := K34_.trans p47__0 (allS (Or.inl (List.mem_of_getElem? (i := 0) rfl)) (allS (Or.inr sz_ba_3_) all0))
  have hz := own_i0
  refine jg T47_ mM 72 ll2 [(.ref a), (.ref a)] (fun tT kK => ?_) ?_
  · refine XS.aloadN X47_.here hx rfl (hC e12_70.1) rfl rfl ?_
    refine XS.dup X47_.here hx rfl (hC e12_70.2.1) rfl rfl ?_
    exact kK
  refine jf X47_ hx hZ hown (jk hw 90 rfl) rfl p47__4 (hC e12_70.2.2.1) fun T50_ X50_ e50_ => ?_
  refine jg T50_ mM 79 ll2 [(.long (sz + (t - f))), (.ref a)] (fun tT kK => ?_) ?_
  · refine XS.lloadN X50_.here hx rfl (hC e12_70.2.2.2) rfl ?_
    refine XS.lloadN X50_.here hx rfl (hC e12_76.1) rfl ?_
    refine XS.lsub X50_.here hx rfl (hC e12_76.2.1) rfl ?_
    refine XS.ladd X50_.here hx rfl (hC e12_76.2.2.1) rfl ?_
    exact kK
  refine jq X50_ hx hZ hown (jk hw 90 rfl) e50_ p47__4 p47__3 (jk hw 77 rfl) (jk hw 54 rfl) (ty := .long) (by decide) rfl rfl (hC e12_76.2.2.2) K47_ N47_ (Or.inl (List.mem_of_getElem? (i := 0) rfl)) g_a fun T51_ h51_ X51_ e51_ W51_ Fw51_ K51_ N51_ => ?_
  have fc52_ := p47__3.wr W51_
  have fc54_ := p47__5.other W51_ (Or.inr (js36 hw).symm)
  have fc55_ := p47__6.other W51_ (Or.inr (js41 hw).symm)
  have fc56_ := p47__7.other W51_ (Or.inr (js5 hw).symm)
  have fc57_ := p47__8.other W51_ (Or.inr (js30 hw).symm)
  have fc58_ := p47__9.other W51_ (Or.inr (js23 hw).symm)
  have fc59_ := p47__10.other W51_ (Or.inr (js14 hw).symm)
  have fc60_ := p47__11.other W51_ (Or.inr (js45 hw))
  have fc61_ := p47__12.other W51_ (Or.inr (js46 hw))
  have fc62_ := p47__13.other W51_ (Or.inr (js47 hw))
  have fc63_ := p47__14.other W51_ (Ne.symm ne4_)
  refine jg T51_ mM 163 ll2 [] (fun tT kK => ?_) ?_
  · refine XS.goto X51_.here hx rfl (pc0 := 82) (pc' := 163) rfl (hC d12_82) (by decide) (by decide) ?_
    exact kK
  exact own_rV X51_ hx hlk hre (hC e12_32.2) e51_ (by decide) (by decide) ⟨ba_3_, kb_3_, en'_47_, vs'_47_, rfl, N51_, K51_, sz_ba_3_, p47__1, by omega, fc52_, Fw51_, fc54_, fc55_, fc56_, fc57_, fc58_, fc59_, fc60_, fc61_, fc62_, fc63_⟩
theorem own_ef_rm_exc (mM : MethodId) (x0 : Addr) (x1 : Int64) (x2 : Int64) : entryFrame mM #[(.ref x0), (.long x1), (.long x2)] 7 = mkF mM 0 #[.val (.ref x0), .val (.long x1), .second, .val (.long x2), .second, .unset, .unset] [] := by first | (simp [entryFrame, mkF, argsToLocals, Value.category]; done) | rfl
def Q_rm_exc (Z : State) (a : Addr) (ba : Addr) (kb : ClassId) (sz : Int64) (ff : Int64) (ft : Int64) (lg : Int64) (lf : Int64) (lt : Int64) (f : Int64) (t : Int64) (en : Int32) (vs : List Value) (h0 : Heap) (n0 : Nat) (vV : Option Value) (hH : Heap) (lA : List Loc) : Prop := vV = none ∧ Fr n0 lA ∧ (Keep h0 hH [a, ba]) ∧ (jE1 Z hH a) ∧ (jF11 Z hH a (.long (sz + (t - f))))
set_option maxRecDepth 65536 in
set_option maxHeartbeats 40000000 in
theorem rm_exc (lL : Launch) (Z : State) (a0 : Array Value) (hw : own_H a0 Z) (ws : List Jvm.Cond) (a : Addr) (ba : Addr) (kb : ClassId) (sz : Int64) (ff : Int64) (ft : Int64) (lg : Int64) (lf : Int64) (lt : Int64) (f : Int64) (t : Int64) (en : Int32) (vs : List Value) (h0 : Heap) (n0 : Nat) (Z0 : n0 ≤ h0.size) (F0 : jE1 Z h0 a) (F1 : jF11 Z h0 a (.long sz)) (F2 : jF2 Z h0 a (.long ff)) (F3 : jF4 Z h0 a (.long ft)) (F4 : jF12 Z h0 a (.ref ba)) (F5 : jF8 Z h0 a (.int (0 : Int32))) (F6 : jF7 Z h0 a (.int en)) (F7 : jF3 Z h0 a (.int (0 : Int32))) (F8 : jF13 Z h0 a (.long lg)) (F9 : jF6 Z h0 a (.long lf)) (F10 : jF5 Z h0 a (.long lt)) (Vb : Arv Z h0 ba kb .byte (28 : Int32) vs (.int (0 : Int32))) (hl : vs.length = 28) (he : 1 ≤ en.toInt ∧ en.toInt ≤ 7) (hs : ¬ (sz = (0 : Int64))) (h1 : lt < f) (hg : 1 ≤ (f - lt).toInt ∧ (f - lt).toInt ≤ 16777216) (hn : 1 ≤ (t - f).toInt ∧ (t - f).toInt ≤ 4096) (g_a : n0 ≤ a) (g_ba : n0 ≤ ba) (ne_a_ba : a ≠ ba) :
    own_Met lL jy14 (Jvm.Cond.code jy14 prog_39_method_5_code 7 none :: ws) jr9 #[(.ref a), (.long f), (.long t)] Z h0 (Q_rm_exc Z a ba kb sz ff ft lg lf lt f t en vs h0 n0) := by
  refine own_begin (plainFor_of_name own_pn_com_example_portion_portion_server_OffsetSet_Page) (fun mM => own_ef_rm_exc mM a f t) fun pP eE sS mM below meth cC s₁ hx hby hml hZ hown hnm hre hlk X0 e0 => ?_
  have hC := @Jvm.hb _ _ hby
  have N0 := Fr.nil n0
  have K0 := Keep.refl h0 [a, ba]
  let ll1 : Array Slot := #[vR a, vJ f, vS, vJ t, vS, vU, vU]
  refine jg s₁ mM 1 ll1 [(.ref a)] (fun tT kK => ?_) ?_
  · refine XS.aloadN X0.here hx rfl (hC e12_0.1) rfl rfl ?_
    exact kK
  refine jv X0 hx hZ (y := jy3) hown (jk hw 83 rfl) (jk hw 84 rfl) (jk hw 86 rfl) (jk hw 85 rfl) (jk hw 87 rfl) (jk hw 55 rfl) (rm_ltb lL Z a0 hw [] a lt h0 n0 (Nat.le_trans Z0 K0.1) F7 F10) F0 e0 own_pd4 [] [] (hC e12_0.2) rfl rfl (by rw [hml]; rfl) (by decide) 0 (Nat.le_of_eq rfl) (by decide) (by decide) (by decide : 0 + 0 ≤ _) (by decide : 0 + 0 ≤ _) fun vv1_ T1_ L1_ X1_ hQ1_ => ?_
  obtain ⟨rfl, N1_q, p1__0⟩ := hQ1_
  have N1_ := Fr.app N0 N1_q
  let ll2 : Array Slot := #[vR a, vJ f, vS, vJ t, vS, vJ lt, vS]
  refine jg T1_ mM 7 ll2 [(.ref a)] (fun tT kK => ?_) ?_
  · refine XS.lstore X1_.here hx rfl (hC e12_4.1) rfl (l' := ll2) rfl ?_
    refine XS.aloadN X1_.here hx rfl (hC e12_4.2.1) rfl rfl ?_
    exact kK
  refine jf X1_ hx hZ hown (jk hw 90 rfl) p1__0 F1 (hC e12_4.2.2.1) fun T2_ X2_ e2_ => ?_
  refine jg T2_ mM 45 ll2 [(.int (19 : Int32)), (.ref a)] (fun tT kK => ?_) ?_
  · refine XS.lconst X2_.here hx rfl (hC e12_4.2.2.2) ?_
    refine XS.lcmp X2_.here hx rfl (hC e12_11.1) rfl ?_
    refine XS.ifYes X2_.here hx rfl (pc0 := 12) (pc' := 35) rfl (hC e12_11.2.1) rfl ((if0 _ _).trans (feq (mt (lw_eq sz (0 : Int64)).mp (hs : ¬ (sz = (0 : Int64))))).2) (by decide) (by decide) ?_
    refine XS.lloadN X2_.here hx rfl (hC e12_35.1) rfl ?_
    refine XS.lload X2_.here hx rfl (hC e12_35.2.1) rfl ?_
    refine XS.lcmp X2_.here hx rfl (hC e12_35.2.2.1) rfl ?_
    refine XS.ifNo X2_.here hx rfl (hC e12_35.2.2.2) rfl ((if0 _ _).trans (tlt ((lw_gt f lt).mpr (h1 : lt < f))).2.2.2) ?_
    refine XS.aloadN X2_.here hx rfl (hC e12_42.1) rfl rfl ?_
    refine XS.bipush X2_.here hx rfl (hC e12_42.2.1) ?_
    exact kK
  refine jw X2_ hx hZ (y := jy13) hown (jk hw 109 rfl) (jk hw 110 rfl) (own_selP (y := jy13) hZ (jk hw 54 rfl) (jk hw 111 rfl) (jk hw 110 rfl) (by decide)) (jk hw 111 rfl) (jk hw 112 rfl) (jk hw 55 rfl) (rm_mr2 lL Z a0 hw [] a ba kb en vs h0 n0 (Nat.le_trans Z0 K0.1) F6 F4 Vb (by omega)) F0 e2_ own_pd3 [(.int (19 : Int32))] [] (hC e12_42.2.2.1) rfl rfl (by rw [hml]; rfl) (by decide) 0 (Nat.le_of_eq rfl) (by decide) (by decide) (by decide : 0 + 0 ≤ _) (by decide : 0 + 0 ≤ _) fun vv3_ T3_ L3_ X3_ hQ3_ => ?_
  obtain ⟨rfl, N3_q, p3__0⟩ := hQ3_
  have N3_ := Fr.app N1_ N3_q
  refine jg T3_ mM 53 ll2 [(.long (f - lt)), (.ref a)] (fun tT kK => ?_) ?_
  · refine XS.aloadN X3_.here hx rfl (hC e12_42.2.2.2) rfl rfl ?_
    refine XS.lloadN X3_.here hx rfl (hC e12_49.1) rfl ?_
    refine XS.lload X3_.here hx rfl (hC e12_49.2.1) rfl ?_
    refine XS.lsub X3_.here hx rfl (hC e12_49.2.2.1) rfl ?_
    exact kK
  refine jq X3_ hx hZ hown (jk hw 123 rfl) p3__0 F8 F0 (jk hw 124 rfl) (jk hw 54 rfl) (ty := .long) (by decide) rfl rfl (hC e12_49.2.2.2) K0 N3_ (Or.inl (List.mem_of_getElem? (i := 0) rfl)) g_a fun T4_ h4_ X4_ e4_ W4_ Fw4_ K4_ N4_ => ?_
  have fc5_ := F0.wr W4_
  have fc6_ := F1.other W4_ (Or.inr (js45 hw).symm)
  have fc7_ := F2.other W4_ (Or.inr (js38 hw).symm)
  have fc8_ := F3.other W4_ (Or.inr (js42 hw).symm)
  have fc9_ := F4.other W4_ (Or.inr (js11 hw).symm)
  have fc10_ := F5.other W4_ (Or.inr (js33 hw).symm)
  have fc11_ := F6.other W4_ (Or.inr (js27 hw).symm)
  have fc12_ := F7.other W4_ (Or.inr (js19 hw).symm)
  have fc13_ := F9.other W4_ (Or.inr (js48 hw))
  have fc14_ := F10.other W4_ (Or.inr (js49 hw))
  have fc15_ := Vb.other W4_ (Ne.symm ne_a_ba)
  refine jg T4_ mM 58 ll2 [(.long f), (.ref a)] (fun tT kK => ?_) ?_
  · refine XS.aloadN X4_.here hx rfl (hC e12_56.1) rfl rfl ?_
    refine XS.lloadN X4_.here hx rfl (hC e12_56.2.1) rfl ?_
    exact kK
  refine jq X4_ hx hZ hown (jk hw 125 rfl) e4_ fc13_ fc5_ (jk hw 126 rfl) (jk hw 54 rfl) (ty := .long) (by decide) rfl rfl (hC e12_56.2.2) K4_ N4_ (Or.inl (List.mem_of_getElem? (i := 0) rfl)) g_a fun T16_ h16_ X16_ e16_ W16_ Fw16_ K16_ N16_ => ?_
  have fc17_ := fc5_.wr W16_
  have fc18_ := fc6_.other W16_ (Or.inr (js46 hw).symm)
  have fc19_ := fc7_.other W16_ (Or.inr (js39 hw).symm)
  have fc20_ := fc8_.other W16_ (Or.inr (js43 hw).symm)
  have fc21_ := fc9_.other W16_ (Or.inr (js12 hw).symm)
  have fc22_ := fc10_.other W16_ (Or.inr (js34 hw).symm)
  have fc23_ := fc11_.other W16_ (Or.inr (js28 hw).symm)
  have fc24_ := fc12_.other W16_ (Or.inr (js20 hw).symm)
  have fc25_ := Fw4_.other W16_ (Or.inr (js48 hw).symm)
  have fc26_ := fc14_.other W16_ (Or.inr (js50 hw))
  have fc27_ := fc15_.other W16_ (Ne.symm ne_a_ba)
  refine jg T16_ mM 63 ll2 [(.long t), (.ref a)] (fun tT kK => ?_) ?_
  · refine XS.aloadN X16_.here hx rfl (hC e12_61.1) rfl rfl ?_
    refine XS.lloadN X16_.here hx rfl (hC e12_61.2.1) rfl ?_
    exact kK
  refine jq X16_ hx hZ hown (jk hw 127 rfl) e16_ fc26_ fc17_ (jk hw 128 rfl) (jk hw 54 rfl) (ty := .long) (by decide) rfl rfl (hC e12_61.2.2.1) K16_ N16_ (Or.inl (List.mem_of_getElem? (i := 0) rfl)) g_a fun T28_ h28_ X28_ e28_ W28_ Fw28_ K28_ N28_ => ?_
  have fc29_ := fc17_.wr W28_
  have fc30_ := fc18_.other W28_ (Or.inr (js47 hw).symm)
  have fc31_ := fc19_.other W28_ (Or.inr (js40 hw).symm)
  have fc32_ := fc20_.other W28_ (Or.inr (js44 hw).symm)
  have fc33_ := fc21_.other W28_ (Or.inr (js13 hw).symm)
  have fc34_ := fc22_.other W28_ (Or.inr (js35 hw).symm)
  have fc35_ := fc23_.other W28_ (Or.inr (js29 hw).symm)
  have fc36_ := fc24_.other W28_ (Or.inr (js21 hw).symm)
  have fc37_ := fc25_.other W28_ (Or.inr (js49 hw).symm)
  have fc38_ := Fw16_.other W28_ (Or.inr (js50 hw).symm)
  have fc39_ := fc27_.other W28_ (Ne.symm ne_a_ba)
  refine jg T28_ mM 67 ll2 [(.ref a)] (fun tT kK => ?_) ?_
  · refine XS.aloadN X28_.here hx rfl (hC e12_61.2.2.2) rfl rfl ?_
    exact kK
  refine jw X28_ hx hZ (y := jy10) hown (jk hw 129 rfl) (jk hw 130 rfl) (own_selP (y := jy10) hZ (jk hw 54 rfl) (jk hw 131 rfl) (jk hw 130 rfl) (by decide)) (jk hw 131 rfl) (jk hw 132 rfl) (jk hw 55 rfl) (rm_wl lL Z a0 hw [] a ba kb sz ff ft (f - lt) f t en (0 : Int32) vs h28_ n0 (Nat.le_trans Z0 K28_.1) fc29_ fc30_ fc31_ fc32_ fc33_ fc34_ fc35_ fc36_ fc37_ fc38_ Fw28_ fc39_ hl (by omega) hg hn g_a g_ba ne_a_ba) fc29_ e28_ own_pd5 [] [] (hC d12_67) rfl rfl (by rw [hml]; rfl) (by decide) 0 (Nat.le_of_eq rfl) (by decide) (by decide) (by decide : 0 + 0 ≤ _) (by decide : 0 + 0 ≤ _) fun vv40_ T40_ L40_ X40_ hQ40_ => ?_
  obtain ⟨en'_40_, vs'_40_, rfl, N40_q, p40__0, p40__1, p40__2, p40__3, p40__4, p40__5, p40__6, p40__7, p40__8, p40__9, p40__10, p40__11, p40__12, p40__13, p40__14⟩ := hQ40_
  have N40_ := Fr.app N28_ N40_q
  have K40_ := K28_.trans p40__0 (allS (Or.inl (List.mem_of_getElem? (i := 0) rfl)) (allS (Or.inl (List.mem_of_getElem? (i := 1) rfl)) all0))
  refine jg T40_ mM 72 ll2 [(.ref a), (.ref a)] (fun tT kK => ?_) ?_
  · refine XS.aloadN X40_.here hx rfl (hC e12_70.1) rfl rfl ?_
    refine XS.dup X40_.here hx rfl (hC e12_70.2.1) rfl rfl ?_
    exact kK
  refine jf X40_ hx hZ hown (jk hw 90 rfl) rfl p40__4 (hC e12_70.2.2.1) fun T42_ X42_ e42_ => ?_
  refine jg T42_ mM 79 ll2 [(.long (sz + (t - f))), (.ref a)] (fun tT kK => ?_) ?_
  · refine XS.lloadN X42_.here hx rfl (hC e12_70.2.2.2) rfl ?_
    refine XS.lloadN X42_.here hx rfl (hC e12_76.1) rfl ?_
    refine XS.lsub X42_.here hx rfl (hC e12_76.2.1) rfl ?_
    refine XS.ladd X42_.here hx rfl (hC e12_76.2.2.1) rfl ?_
    exact kK
  refine jq X42_ hx hZ hown (jk hw 90 rfl) e42_ p40__4 p40__3 (jk hw 77 rfl) (jk hw 54 rfl) (ty := .long) (by decide) rfl rfl (hC e12_76.2.2.2) K40_ N40_ (Or.inl (List.mem_of_getElem? (i := 0) rfl)) g_a fun T43_ h43_ X43_ e43_ W43_ Fw43_ K43_ N43_ => ?_
  have fc44_ := p40__3.wr W43_
  refine jg T43_ mM 163 ll2 [] (fun tT kK => ?_) ?_
  · refine XS.goto X43_.here hx rfl (pc0 := 82) (pc' := 163) rfl (hC d12_82) (by decide) (by decide) ?_
    exact kK
  exact own_rV X43_ hx hlk hre (hC e12_32.2) e43_ (by decide) (by decide) ⟨rfl, N43_, K43_, fc44_, Fw43_⟩
theorem e18_43 : jD12 43 (.aload_n 0, 1) ∧ jD12 44 (.dup, 1) ∧ jD12 45 (.getfield 18, 3) ∧ jD12 48 (.aload_n 0, 1) := by decide +kernel
theorem e18_49 : jD12 49 (.getfield 38, 3) ∧ jD12 52 (.isub, 1) ∧ jD12 53 (.putfield 18, 3) := by decide +kernel
theorem own_ef_rm_mv2 (mM : MethodId) (x0 : Addr) (x1 : Int32) : entryFrame mM #[(.ref x0), (.int x1)] 3 = mkF mM 0 #[.val (.ref x0), .val (.int x1), .unset] [] := by first | (simp [entryFrame, mkF, argsToLocals, Value.category]; done) | rfl
def Q_rm_mv2 (Z : State) (a : Addr) (ba : Addr) (kb : ClassId) (sz : Int64) (ff : Int64) (ft : Int64) (lg : Int64) (lf : Int64) (lt : Int64) (len : Int32) (en : Int32) (vs : List Value) (h0 : Heap) (n0 : Nat) (vV : Option Value) (hH : Heap) (lA : List Loc) : Prop := vV = none ∧ Fr n0 lA ∧ (Keep h0 hH [a]) ∧ (jE1 Z hH a)
set_option maxRecDepth 65536 in
set_option maxHeartbeats 40000000 in
theorem rm_mv2 (lL : Launch) (Z : State) (a0 : Array Value) (hw : own_H a0 Z) (ws : List Jvm.Cond) (a : Addr) (ba : Addr) (kb : ClassId) (sz : Int64) (ff : Int64) (ft : Int64) (lg : Int64) (lf : Int64) (lt : Int64) (len : Int32) (en : Int32) (vs : List Value) (h0 : Heap) (n0 : Nat) (Z0 : n0 ≤ h0.size) (F0 : jE1 Z h0 a) (F1 : jF11 Z h0 a (.long sz)) (F2 : jF2 Z h0 a (.long ff)) (F3 : jF4 Z h0 a (.long ft)) (F4 : jF12 Z h0 a (.ref ba)) (F5 : jF8 Z h0 a (.int (0 : Int32))) (F6 : jF7 Z h0 a (.int en)) (F7 : jF3 Z h0 a (.int (0 : Int32))) (F8 : jF13 Z h0 a (.long lg)) (F9 : jF6 Z h0 a (.long lf)) (F10 : jF5 Z h0 a (.long lt)) (Vb : Arv Z h0 ba kb .byte (28 : Int32) vs (.int (0 : Int32))) (he : 1 ≤ en.toInt ∧ en.toInt ≤ 7) (hq : (en - (0 : Int32)) = len) (g_a : n0 ≤ a) (ne_a_ba : a ≠ ba) :
    own_Met lL jy12 (Jvm.Cond.code jy12 prog_39_method_18_code 3 none :: ws) jr10 #[(.ref a), (.int len)] Z h0 (Q_rm_mv2 Z a ba kb sz ff ft lg lf lt len en vs h0 n0) := by
  refine own_begin (plainFor_of_name own_pn_com_example_portion_portion_server_OffsetSet_Page) (fun mM => own_ef_rm_mv2 mM a len) fun pP eE sS mM below meth cC s₁ hx hby hml hZ hown hnm hre hlk X0 e0 => ?_
  have hC := @Jvm.hb _ _ hby
  have N0 := Fr.nil n0
  have K0 := Keep.refl h0 [a]
  have hlen : len = en := by rw [← hq]; exact own_bc en
  have hc : len.toNatClampNeg ≤ 7 := by rw [hlen]; simp only [Int32.toNatClampNeg]; omega
  have hp : ¬ len < (0 : Int32) := by rw [hlen, Int32.lt_iff_toInt_lt, own_i0]; omega
  have h28 : len.toNatClampNeg ≤ (28 : Int32).toNatClampNeg := Nat.le_trans hc (by decide)
  refine jg s₁ mM 11 #[vR a, vI len, vU] [(.int len)] (fun tT kK => ?_) ?_
  · refine XS.iloadN X0.here hx rfl (hC e18_0.1) rfl ?_
    refine XS.ifYes X0.here hx rfl (pc0 := 1) (pc' := 10) rfl (hC e18_0.2.1) rfl ((if0 _ _).trans (feq ((fun q => by rw [hlen] at q; rw [q, own_i0] at he; omega) : ¬ (len = (0 : Int32)))).2) (by decide) (by decide) ?_
    refine XS.iloadN X0.here hx rfl (hC e18_0.2.2.1) rfl ?_
    exact kK
  obtain ⟨T1_, h1_, k1_, X1_, e1_, E1_, A1_, st1_⟩ := newP X0 hx hZ (jk hw 121 rfl) e0 (g := (mkF mM 11 #[vR a, vI len, vU] [(.int len)])) rfl (hC e18_0.2.2.2) rfl hp (cap := 7) hc (by decide) (by decide) (by decide)
  obtain ⟨b1_, g1_⟩ : ∃ z, z = h0.size := ⟨_, rfl⟩
  rw [← g1_] at A1_ st1_
  have sz_b1_ : h0.size ≤ b1_ := Nat.le_trans K0.1 (Nat.le_of_eq g1_.symm)
  have ge_b1_ : n0 ≤ b1_ := Nat.le_trans Z0 sz_b1_
  have ne2_ : a ≠ b1_ := Nat.ne_of_lt (Nat.lt_of_lt_of_le F0.lt (Nat.le_of_eq g1_.symm))
  have fc4_ := F0.ext E1_
  have fc8_ := F4.ext E1_
  have fc9_ := F5.ext E1_
  have fc10_ := F6.ext E1_
  have fc11_ := F7.ext E1_
  have fc15_ := Vb.ext E1_
  have K1_ := K0.ext E1_
  have V1_ : Arv Z h1_ b1_ k1_ .byte len [] (.int (0 : Int32)) := Arv.new A1_ hp
  refine own_fin st1_ ?_
  let ll1 : Array Slot := #[vR a, vI len, vR b1_]
  refine jg T1_ mM 15 ll1 [(.ref a)] (fun tT kK => ?_) ?_
  · refine XS.astoreN X1_.here hx rfl (hC e18_13.1) rfl rfl (l' := ll1) rfl ?_
    refine XS.aloadN X1_.here hx rfl (hC e18_13.2.1) rfl rfl ?_
    exact kK
  refine jf X1_ hx hZ hown (jk hw 62 rfl) e1_ fc8_ (hC e18_13.2.2.1) fun T16_ X16_ e16_ => ?_
  refine jg T16_ mM 19 ll1 [(.ref a), (.ref ba)] (fun tT kK => ?_) ?_
  · refine XS.aloadN X16_.here hx rfl (hC e18_13.2.2.2) rfl rfl ?_
    exact kK
  refine jf X16_ hx hZ hown (jk hw 107 rfl) e16_ fc9_ (hC e18_19.1) fun T17_ X17_ e17_ => ?_
  refine jg T17_ mM 25 ll1 [(.ref a), (.int (0 : Int32)), (.ref b1_), (.int (0 : Int32)), (.ref ba)] (fun tT kK => ?_) ?_
  · refine XS.aloadN X17_.here hx rfl (hC e18_19.2.1) rfl rfl ?_
    refine XS.iconst X17_.here hx rfl (hC e18_19.2.2.1) ?_
    refine XS.aloadN X17_.here hx rfl (hC e18_19.2.2.2) rfl rfl ?_
    exact kK
  refine jf X17_ hx hZ hown (jk hw 105 rfl) e17_ fc10_ (hC e18_25.1) fun T18_ X18_ e18_ => ?_
  refine jg T18_ mM 29 ll1 [(.ref a), (.int en), (.int (0 : Int32)), (.ref b1_), (.int (0 : Int32)), (.ref ba)] (fun tT kK => ?_) ?_
  · refine XS.aloadN X18_.here hx rfl (hC e18_25.2.1) rfl rfl ?_
    exact kK
  refine jf X18_ hx hZ hown (jk hw 107 rfl) e18_ fc9_ (hC e18_25.2.2.1) fun T19_ X19_ e19_ => ?_
  refine jg T19_ mM 33 ll1 [(.int (en - (0 : Int32))), (.int (0 : Int32)), (.ref b1_), (.int (0 : Int32)), (.ref ba)] (fun tT kK => ?_) ?_
  · refine XS.isub X19_.here hx rfl (hC e18_25.2.2.2) rfl ?_
    exact kK
  have Vr20_ : Arv Z h1_ b1_ k1_ .byte len (List.replicate len.toNatClampNeg (.int (0 : Int32))) (.int (0 : Int32)) := V1_.pad (pad_rep [] (.int (0 : Int32)) len.toNatClampNeg)
  rw [hq]
  obtain ⟨T21_, h21_, L21_, X21_, e21_, N21_, Kc21_, V21_, st21_⟩ := cpA X19_ hx hZ hown (jk hw 122 rfl) (jk hw 75 rfl) (jk hw 73 rfl) (jk hw 74 rfl) e19_ fc15_ Vr20_ (us := _) (Or.inl ⟨rfl, rfl⟩) (by decide) (by decide) hp (by show 0 + _ ≤ _; rw [Nat.zero_add]; exact h28) (by show 0 + _ ≤ _; rw [Nat.zero_add]; exact Nat.le_refl _) rfl (by rw [List.length_replicate]; show 0 + _ ≤ _; rw [Nat.zero_add]; exact Nat.le_refl _) N0 ge_b1_ (g := (mkF mM 33 ll1 [(.int len), (.int (0 : Int32)), (.ref b1_), (.int (0 : Int32)), (.ref ba)])) rfl (by rw [hml]; rfl) rfl (hC e18_33.1) (by decide) (W := 0) (by show 2 * 0 + _ ≤ _; exact Nat.le_of_eq rfl) (by decide)
  have fc22_ := fc4_.keep Kc21_
  have fc26_ := fc8_.keep Kc21_ (ninS ne2_ nin0)
  have fc27_ := fc9_.keep Kc21_ (ninS ne2_ nin0)
  have fc28_ := fc10_.keep Kc21_ (ninS ne2_ nin0)
  have fc29_ := fc11_.keep Kc21_ (ninS ne2_ nin0)
  have K21_ := K1_.trans Kc21_ (allS (Or.inr sz_b1_) all0)
  refine own_fin st21_ ?_
  refine jg T21_ mM 37 ll1 [(.ref a)] (fun tT kK => ?_) ?_
  · refine XS.aloadN X21_.here hx rfl (hC e18_33.2.1) rfl rfl ?_
    exact kK
  refine jf X21_ hx hZ hown (jk hw 64 rfl) e21_ fc29_ (hC e18_33.2.2.1) fun T34_ X34_ e34_ => ?_
  refine jg T34_ mM 45 ll1 [(.ref a), (.ref a)] (fun tT kK => ?_) ?_
  · refine XS.ifNo X34_.here hx rfl (hC e18_33.2.2.2) rfl ((if0 _ _).trans (flt ((by decide) : ¬ ((0 : Int32) < (0 : Int32)))).1) ?_
    refine XS.aloadN X34_.here hx rfl (hC e18_43.1) rfl rfl ?_
    refine XS.dup X34_.here hx rfl (hC e18_43.2.1) rfl rfl ?_
    exact kK
  refine jf X34_ hx hZ hown (jk hw 64 rfl) e34_ fc29_ (hC e18_43.2.2.1) fun T35_ X35_ e35_ => ?_
  refine jg T35_ mM 49 ll1 [(.ref a), (.int (0 : Int32)), (.ref a)] (fun tT kK => ?_) ?_
  · refine XS.aloadN X35_.here hx rfl (hC e18_43.2.2.2) rfl rfl ?_
    exact kK
  refine jf X35_ hx hZ hown (jk hw 107 rfl) e35_ fc27_ (hC e18_49.1) fun T36_ X36_ e36_ => ?_
  refine jg T36_ mM 53 ll1 [(.int (0 : Int32)), (.ref a)] (fun tT kK => ?_) ?_
  · refine XS.isub X36_.here hx rfl (hC e18_49.2.1) rfl ?_
    exact kK
  refine jq X36_ hx hZ hown (jk hw 64 rfl) e36_ fc29_ fc22_ (jk hw 65 rfl) (jk hw 54 rfl) (ty := .int) (by decide) rfl rfl (hC e18_49.2.2) K21_ N21_ (Or.inl (List.mem_of_getElem? (i := 0) rfl)) g_a fun T37_ h37_ X37_ e37_ W37_ Fw37_ K37_ N37_ => ?_
  have fc38_ := fc22_.wr W37_
  have fc42_ := fc26_.other W37_ (Or.inr (js10 hw).symm)
  have fc43_ := fc27_.other W37_ (Or.inr (js17 hw))
  have fc44_ := fc28_.other W37_ (Or.inr (js18 hw))
  refine jg T37_ mM 58 ll1 [(.ref a), (.ref a)] (fun tT kK => ?_) ?_
  · refine XS.aloadN X37_.here hx rfl (hC e18_56.1) rfl rfl ?_
    refine XS.dup X37_.here hx rfl (hC e18_56.2.1) rfl rfl ?_
    exact kK
  refine jf X37_ hx hZ hown (jk hw 105 rfl) e37_ fc44_ (hC e18_56.2.2.1) fun T49_ X49_ e49_ => ?_
  refine jg T49_ mM 62 ll1 [(.ref a), (.int en), (.ref a)] (fun tT kK => ?_) ?_
  · refine XS.aloadN X49_.here hx rfl (hC e18_56.2.2.2) rfl rfl ?_
    exact kK
  refine jf X49_ hx hZ hown (jk hw 107 rfl) e49_ fc43_ (hC e18_62.1) fun T50_ X50_ e50_ => ?_
  refine jg T50_ mM 66 ll1 [(.int (en - (0 : Int32))), (.ref a)] (fun tT kK => ?_) ?_
  · refine XS.isub X50_.here hx rfl (hC e18_62.2.1) rfl ?_
    exact kK
  refine jq X50_ hx hZ hown (jk hw 105 rfl) e50_ fc44_ fc38_ (jk hw 106 rfl) (jk hw 54 rfl) (ty := .int) (by decide) rfl rfl (hC e18_62.2.2.1) K37_ N37_ (Or.inl (List.mem_of_getElem? (i := 0) rfl)) g_a fun T51_ h51_ X51_ e51_ W51_ Fw51_ K51_ N51_ => ?_
  have fc52_ := fc38_.wr W51_
  have fc56_ := fc42_.other W51_ (Or.inr (js9 hw).symm)
  have fc57_ := fc43_.other W51_ (Or.inr (js26 hw))
  refine jg T51_ mM 71 ll1 [(.int (0 : Int32)), (.ref a)] (fun tT kK => ?_) ?_
  · refine XS.aloadN X51_.here hx rfl (hC e18_62.2.2.2) rfl rfl ?_
    refine XS.iconst X51_.here hx rfl (hC e18_70.1) ?_
    exact kK
  refine jq X51_ hx hZ hown (jk hw 107 rfl) e51_ fc57_ fc52_ (jk hw 108 rfl) (jk hw 54 rfl) (ty := .int) (by decide) rfl rfl (hC e18_70.2) K51_ N51_ (Or.inl (List.mem_of_getElem? (i := 0) rfl)) g_a fun T63_ h63_ X63_ e63_ W63_ Fw63_ K63_ N63_ => ?_
  have fc64_ := fc52_.wr W63_
  have fc68_ := fc56_.other W63_ (Or.inr (js8 hw).symm)
  refine jg T63_ mM 76 ll1 [(.ref b1_), (.ref a)] (fun tT kK => ?_) ?_
  · refine XS.aloadN X63_.here hx rfl (hC e18_74.1) rfl rfl ?_
    refine XS.aloadN X63_.here hx rfl (hC e18_74.2.1) rfl rfl ?_
    exact kK
  refine jq X63_ hx hZ hown (jk hw 62 rfl) e63_ fc68_ fc64_ (jk hw 63 rfl) (jk hw 54 rfl) (ty := (.array .byte)) (by decide) rfl rfl (hC e18_74.2.2.1) K63_ N63_ (Or.inl (List.mem_of_getElem? (i := 0) rfl)) g_a fun T75_ h75_ X75_ e75_ W75_ Fw75_ K75_ N75_ => ?_
  have fc76_ := fc64_.wr W75_
  exact own_rV X75_ hx hlk hre (hC e18_74.2.2.2) e75_ (by decide) (by decide) ⟨rfl, N75_, K75_, fc76_⟩
theorem e27_0 : jD15 0 (.aload_n 0, 1) ∧ jD15 1 (.getfield 13, 3) ∧ jD15 4 (.arraylength, 1) ∧ jD15 5 (.aload_n 0, 1) := by decide +kernel
theorem e27_6 : jD15 6 (.getfield 35, 3) ∧ jD15 9 (.aload_n 0, 1) ∧ jD15 10 (.getfield 38, 3) ∧ jD15 13 (.isub, 1) := by decide +kernel
theorem e27_14 : jD15 14 (.if_icmp .le 16, 3) ∧ jD15 17 (.aload_n 0, 1) ∧ jD15 18 (.aload_n 0, 1) ∧ jD15 19 (.getfield 35, 3) := by decide +kernel
theorem e27_22 : jD15 22 (.aload_n 0, 1) ∧ jD15 23 (.getfield 38, 3) ∧ jD15 26 (.isub, 1) ∧ jD15 27 (.invokevirtual 126, 3) := by decide +kernel
theorem d27_30 : jD15 30 (.return_, 1) := by decide +kernel
theorem own_ef_rm_tr (mM : MethodId) (x0 : Addr) : entryFrame mM #[(.ref x0)] 1 = mkF mM 0 #[.val (.ref x0)] [] := by first | (simp [entryFrame, mkF, argsToLocals, Value.category]; done) | rfl
def Q_rm_tr (Z : State) (a : Addr) (ba : Addr) (kb : ClassId) (sz : Int64) (ff : Int64) (ft : Int64) (lg : Int64) (lf : Int64) (lt : Int64) (en : Int32) (vs : List Value) (h0 : Heap) (n0 : Nat) (vV : Option Value) (hH : Heap) (lA : List Loc) : Prop := vV = none ∧ Fr n0 lA ∧ (Keep h0 hH [a]) ∧ (jE1 Z hH a)
set_option maxRecDepth 65536 in
set_option maxHeartbeats 40000000 in
theorem rm_tr (lL : Launch) (Z : State) (a0 : Array Value) (hw : own_H a0 Z) (ws : List Jvm.Cond) (a : Addr) (ba : Addr) (kb : ClassId) (sz : Int64) (ff : Int64) (ft : Int64) (lg : Int64) (lf : Int64) (lt : Int64) (en : Int32) (vs : List Value) (h0 : Heap) (n0 : Nat) (Z0 : n0 ≤ h0.size) (F0 : jE1 Z h0 a) (F1 : jF11 Z h0 a (.long sz)) (F2 : jF2 Z h0 a (.long ff)) (F3 : jF4 Z h0 a (.long ft)) (F4 : jF12 Z h0 a (.ref ba)) (F5 : jF8 Z h0 a (.int (0 : Int32))) (F6 : jF7 Z h0 a (.int en)) (F7 : jF3 Z h0 a (.int (0 : Int32))) (F8 : jF13 Z h0 a (.long lg)) (F9 : jF6 Z h0 a (.long lf)) (F10 : jF5 Z h0 a (.long lt)) (Vb : Arv Z h0 ba kb .byte (28 : Int32) vs (.int (0 : Int32))) (he : 1 ≤ en.toInt ∧ en.toInt ≤ 7) (g_a : n0 ≤ a) (ne_a_ba : a ≠ ba) :
    own_Met lL jy15 (Jvm.Cond.code jy15 prog_39_method_13_code 1 none :: ws) jr11 #[(.ref a)] Z h0 (Q_rm_tr Z a ba kb sz ff ft lg lf lt en vs h0 n0) := by
  refine own_begin (plainFor_of_name own_pn_com_example_portion_portion_server_OffsetSet_Page) (fun mM => own_ef_rm_tr mM a) fun pP eE sS mM below meth cC s₁ hx hby hml hZ hown hnm hre hlk X0 e0 => ?_
  have hC := @Jvm.hb _ _ hby
  have N0 := Fr.nil n0
  have K0 := Keep.refl h0 [a]
  refine jg s₁ mM 1 #[vR a] [(.ref a)] (fun tT kK => ?_) ?_
  · refine XS.aloadN X0.here hx rfl (hC e27_0.1) rfl rfl ?_
    exact kK
  refine jf X0 hx hZ hown (jk hw 62 rfl) e0 F4 (hC e27_0.2.1) fun T1_ X1_ e1_ => ?_
  obtain ⟨cl2_, Ar2_, qk2_, Sz2_, Nn2_, Hh2_, Gg2_⟩ := id Vb
  refine jg T1_ mM 6 #[vR a] [(.ref a), (.int (28 : Int32))] (fun tT kK => ?_) ?_
  · refine X1_.arraylength hx (own_rw e1_ Ar2_.1) (State.isArrayOf_alike hZ.alike Ar2_.2.1) (g := (mkF mM 4 #[vR a] [(.ref ba)])) rfl rfl (hC e27_0.2.2.1) _ ?_
    rw [len_of Sz2_ Nn2_]
    refine XS.aloadN X1_.here hx rfl (hC e27_0.2.2.2) rfl rfl ?_
    exact kK
  refine jf X1_ hx hZ hown (jk hw 105 rfl) e1_ F6 (hC e27_6.1) fun T3_ X3_ e3_ => ?_
  refine jg T3_ mM 10 #[vR a] [(.ref a), (.int en), (.int (28 : Int32))] (fun tT kK => ?_) ?_
  · refine XS.aloadN X3_.here hx rfl (hC e27_6.2.1) rfl rfl ?_
    exact kK
  refine jf X3_ hx hZ hown (jk hw 107 rfl) e3_ F5 (hC e27_6.2.2.1) fun T4_ X4_ e4_ => ?_
  refine jg T4_ mM 19 #[vR a] [(.ref a), (.ref a)] (fun tT kK => ?_) ?_
  · refine XS.isub X4_.here hx rfl (hC e27_6.2.2.2) rfl ?_
    refine XS.icmpNo X4_.here hx rfl (hC e27_14.1) rfl (tlt (own_tr he : (en - (0 : Int32)) < (28 : Int32))).2.2.2 ?_
    refine XS.aloadN X4_.here hx rfl (hC e27_14.2.1) rfl rfl ?_
    refine XS.aloadN X4_.here hx rfl (hC e27_14.2.2.1) rfl rfl ?_
    exact kK
  refine jf X4_ hx hZ hown (jk hw 105 rfl) e4_ F6 (hC e27_14.2.2.2) fun T5_ X5_ e5_ => ?_
  refine jg T5_ mM 23 #[vR a] [(.ref a), (.int en), (.ref a)] (fun tT kK => ?_) ?_
  · refine XS.aloadN X5_.here hx rfl (hC e27_22.1) rfl rfl ?_
    exact kK
  refine jf X5_ hx hZ hown (jk hw 107 rfl) e5_ F5 (hC e27_22.2.1) fun T6_ X6_ e6_ => ?_
  refine jg T6_ mM 27 #[vR a] [(.int (en - (0 : Int32))), (.ref a)] (fun tT kK => ?_) ?_
  · refine XS.isub X6_.here hx rfl (hC e27_22.2.2.1) rfl ?_
    exact kK
  refine jw X6_ hx hZ (y := jy12) hown (jk hw 117 rfl) (jk hw 118 rfl) (own_selP (y := jy12) hZ (jk hw 54 rfl) (jk hw 119 rfl) (jk hw 118 rfl) (by decide)) (jk hw 119 rfl) (jk hw 120 rfl) (jk hw 55 rfl) (rm_mv2 lL Z a0 hw [] a ba kb sz ff ft lg lf lt (en - (0 : Int32)) en vs h0 n0 (Nat.le_trans Z0 K0.1) F0 F1 F2 F3 F4 F5 F6 F7 F8 F9 F10 Vb he rfl g_a ne_a_ba) F0 e6_ own_pd3 [(.int (en - (0 : Int32)))] [] (hC e27_22.2.2.2) rfl rfl (by rw [hml]; rfl) (by decide) 0 (Nat.le_of_eq rfl) (by decide) (by decide) (by decide : 0 + 1 ≤ _) (by decide : 0 + 7 ≤ _) fun vv7_ T7_ L7_ X7_ hQ7_ => ?_
  obtain ⟨rfl, N7_q, p7__0, p7__1⟩ := hQ7_
  have N7_ := Fr.app N0 N7_q
  have K7_ := K0.trans p7__0 (allS (Or.inl (List.mem_of_getElem? (i := 0) rfl)) all0)
  exact own_rV X7_ hx hlk hre (hC d27_30) rfl (by decide) (by decide) ⟨rfl, N7_, K7_, p7__1⟩
theorem e9_0 : jD16 0 (.iload_n 1, 1) ∧ jD16 1 (.ifCond .ge 7, 3) ∧ jD16 4 (.aconst_null, 1) ∧ jD16 5 (.goto 9, 3) := by decide +kernel
theorem e9_14 : jD16 14 (.astore 6, 2) ∧ jD16 16 (.aload 6, 2) ∧ jD16 18 (.ifnull 25, 3) ∧ jD16 43 (.aload 6, 2) := by decide +kernel
theorem e9_45 : jD16 45 (.ifnull 8, 3) ∧ jD16 53 (.new 35, 3) ∧ jD16 56 (.dup, 1) ∧ jD16 57 (.invokespecial 152, 3) := by decide +kernel
theorem e9_60 : jD16 60 (.astore 6, 2) ∧ jD16 62 (.aload_n 0, 1) ∧ jD16 63 (.iload_n 1, 1) ∧ jD16 64 (.iconst 1, 1) := by decide +kernel
theorem e9_65 : jD16 65 (.iadd, 1) ∧ jD16 66 (.iload_n 1, 1) ∧ jD16 67 (.iconst 1, 1) ∧ jD16 68 (.iadd, 1) := by decide +kernel
theorem e9_69 : jD16 69 (.iconst 1, 1) ∧ jD16 70 (.anewarray 35, 3) ∧ jD16 73 (.dup, 1) ∧ jD16 74 (.iconst 0, 1) := by decide +kernel
theorem e9_75 : jD16 75 (.aload 6, 2) ∧ jD16 77 (.aastore, 1) ∧ jD16 78 (.iconst 1, 1) ∧ jD16 79 (.invokevirtual 47, 3) := by decide +kernel
theorem own_pd6 : parseMethodDescriptor "(II[Lcom/example/portion/portion/server/OffsetSet$Page;I)V" = some ⟨[.int, .int, (.array (.object "com/example/portion/portion/server/OffsetSet$Page")), .int], none⟩ := by decide +kernel
theorem e9_82 : jD16 82 (.aload 6, 2) ∧ jD16 84 (.getfield 46, 3) ∧ jD16 87 (.lstore 7, 2) ∧ jD16 89 (.aload 6, 2) := by decide +kernel
theorem e9_91 : jD16 91 (.lload_n 2, 1) ∧ jD16 92 (.lload 4, 2) ∧ jD16 94 (.invokevirtual 153, 3) := by decide +kernel
theorem own_pd7 : parseMethodDescriptor "(JJ)V" = some ⟨[.long, .long], none⟩ := by decide +kernel
theorem e9_97 : jD16 97 (.aload_n 0, 1) ∧ jD16 98 (.dup, 1) ∧ jD16 99 (.getfield 23, 3) ∧ jD16 102 (.aload 6, 2) := by decide +kernel
theorem e9_104 : jD16 104 (.getfield 46, 3) ∧ jD16 107 (.lload 7, 2) ∧ jD16 109 (.lsub, 1) ∧ jD16 110 (.ladd, 1) := by decide +kernel
theorem e9_111 : jD16 111 (.putfield 23, 3) ∧ jD16 114 (.return_, 1) := by decide +kernel
theorem own_ef_rm_ata (mM : MethodId) (x0 : Addr) (x1 : Int32) (x2 : Int64) (x3 : Int64) : entryFrame mM #[(.ref x0), (.int x1), (.long x2), (.long x3)] 9 = mkF mM 0 #[.val (.ref x0), .val (.int x1), .val (.long x2), .second, .val (.long x3), .second, .unset, .unset, .unset] [] := by first | (simp [entryFrame, mkF, argsToLocals, Value.category]; done) | rfl
def Q_rm_ata (Z : State) (st : Addr) (np : Addr) (nb : Addr) (kp : ClassId) (pb : Int32) (f : Int64) (t : Int64) (h0 : Heap) (n0 : Nat) (vV : Option Value) (hH : Heap) (lA : List Loc) : Prop := ∃ pg : Addr, ∃ pa : Addr, ∃ kq : ClassId, vV = none ∧ Fr n0 lA ∧ (Keep h0 hH [st]) ∧ (h0.size ≤ pg) ∧ (h0.size ≤ pa) ∧ (pg ≠ pa) ∧ (Ovr Z kq "com/example/portion/portion/server/OffsetSet$Page") ∧ (jE0 Z hH st) ∧ (jF9 Z hH st (.long ((0 : Int64) + ((t - f) - (0 : Int64))))) ∧ (jF1 Z hH st (.ref pa)) ∧ (jF0 Z hH st (.int (1 : Int32))) ∧ (jF10 Z hH st (.int pb)) ∧ (jE1 Z hH pg) ∧ (jF11 Z hH pg (.long (t - f))) ∧ (jF2 Z hH pg (.long f)) ∧ (jF4 Z hH pg (.long t)) ∧ (jF12 Z hH pg (.ref nb)) ∧ (jF8 Z hH pg (.int (0 : Int32))) ∧ (jF7 Z hH pg (.int (0 : Int32))) ∧ (jF3 Z hH pg (.int (-1 : Int32))) ∧ (jF13 Z hH pg (.long (0 : Int64))) ∧ (jF6 Z hH pg (.long (0 : Int64))) ∧ (jF5 Z hH pg (.long (0 : Int64))) ∧ (Arv Z hH pa kq (.object "com/example/portion/portion/server/OffsetSet$Page") (2 : Int32) [(.ref pg), .null] .null)
set_option maxRecDepth 65536 in
set_option maxHeartbeats 40000000 in
theorem rm_ata (lL : Launch) (Z : State) (a0 : Array Value) (hw : own_H a0 Z) (ws : List Jvm.Cond) (st : Addr) (np : Addr) (nb : Addr) (kp : ClassId) (pb : Int32) (f : Int64) (t : Int64) (h0 : Heap) (n0 : Nat) (Z0 : n0 ≤ h0.size) (F0 : jE0 Z h0 st) (F1 : jF9 Z h0 st (.long (0 : Int64))) (F2 : jF1 Z h0 st (.ref np)) (F3 : jF0 Z h0 st (.int (0 : Int32))) (F4 : jF10 Z h0 st (.int pb)) (Zb : Sta Z Z.heap "com/example/portion/portion/server/OffsetSet" "NO_BYTES" "[B" (.ref nb)) (O0 : Old Z n0 h0) (Vn : Arv Z h0 np kp (.object "com/example/portion/portion/server/OffsetSet$Page") (0 : Int32) [] .null) (g_st : n0 ≤ st) (ne_st_np : st ≠ np) :
    own_Met lL jy16 (Jvm.Cond.code jy16 prog_38_method_20_code 9 none :: ws) jr12 #[(.ref st), (.int (-1 : Int32)), (.long f), (.long t)] Z h0 (Q_rm_ata Z st np nb kp pb f t h0 n0) := by
  refine own_begin (plainFor_of_name own_pn_com_example_portion_portion_server_OffsetSet) (fun mM => own_ef_rm_ata mM st (-1 : Int32) f t) fun pP eE sS mM below meth cC s₁ hx hby hml hZ hown hnm hre hlk X0 e0 => ?_
  have hC := @Jvm.hb _ _ hby
  have N0 := Fr.nil n0
  have K0 := Keep.refl h0 [st]
  let ll1 : Array Slot := #[vR st, vI (-1), vJ f, vS, vJ t, vS, vN, vU, vU]
  refine jg s₁ mM 53 ll1 [] (fun tT kK => ?_) ?_
  · refine XS.iloadN X0.here hx rfl (hC e9_0.1) rfl ?_
    refine XS.ifNo X0.here hx rfl (hC e9_0.2.1) rfl ((if0 _ _).trans (tlt ((by decide) : (-1 : Int32) < (0 : Int32))).2.1) ?_
    refine XS.aconstNull X0.here hx rfl (hC e9_0.2.2.1) ?_
    refine XS.goto X0.here hx rfl (pc0 := 5) (pc' := 14) rfl (hC e9_0.2.2.2) (by decide) (by decide) ?_
    refine XS.astore X0.here hx rfl (hC e9_14.1) rfl rfl (l' := ll1) rfl ?_
    refine XS.aload X0.here hx rfl (hC e9_14.2.1) rfl rfl ?_
    refine XS.ifnullYes X0.here hx rfl (pc0 := 18) (pc' := 43) rfl (hC e9_14.2.2.1) rfl (by decide) (by decide) ?_
    refine XS.aload X0.here hx rfl (hC e9_14.2.2.2) rfl rfl ?_
    refine XS.ifnullYes X0.here hx rfl (pc0 := 45) (pc' := 53) rfl (hC e9_45.1) rfl (by decide) (by decide) ?_
    exact kK
  obtain ⟨T1_, h1_, X1_, e1_, E1_, A1_, D1_, -, st1_⟩ := newO X0 hx hZ hown (jk hw 53 rfl) (jk hw 54 rfl) (jk hw 55 rfl) e0 (g := (mkF mM 53 ll1 [])) rfl (hC e9_45.2.1) (by decide) (by decide)
  obtain ⟨b1_, g1_⟩ : ∃ z, z = h0.size := ⟨_, rfl⟩
  rw [← g1_] at A1_ D1_ st1_
  have sz_b1_ : h0.size ≤ b1_ := Nat.le_trans K0.1 (Nat.le_of_eq g1_.symm)
  have ge_b1_ : n0 ≤ b1_ := Nat.le_trans Z0 sz_b1_
  have ne2_ : st ≠ b1_ := Nat.ne_of_lt (Nat.lt_of_lt_of_le F0.lt (Nat.le_of_eq g1_.symm))
  have ne3_ : np ≠ b1_ := Nat.ne_of_lt (Nat.lt_of_lt_of_le Vn.lt (Nat.le_of_eq g1_.symm))
  have fc4_ := F0.ext E1_
  have fc5_ := F1.ext E1_
  have fc6_ := F2.ext E1_
  have fc7_ := F3.ext E1_
  have fc8_ := F4.ext E1_
  have fc9_ := O0.ext E1_
  have fc10_ := Vn.ext E1_
  have K1_ := K0.ext E1_
  have F1__bytes : jF12 Z h1_ b1_ .null := D1_ (Or.inl (jk hw 63 rfl)) (ty := (.array .byte)) (by decide)
  have F1__lastAt : jF3 Z h1_ b1_ (.int (0 : Int32)) := D1_ (Or.inl (jk hw 65 rfl)) (ty := .int) (by decide)
  have F1__size : jF11 Z h1_ b1_ (.long (0 : Int64)) := D1_ (Or.inl (jk hw 77 rfl)) (ty := .long) (by decide)
  have F1__firstTo : jF4 Z h1_ b1_ (.long (0 : Int64)) := D1_ (Or.inl (jk hw 89 rfl)) (ty := .long) (by decide)
  have F1__firstFrom : jF2 Z h1_ b1_ (.long (0 : Int64)) := D1_ (Or.inl (jk hw 92 rfl)) (ty := .long) (by decide)
  have F1__end : jF7 Z h1_ b1_ (.int (0 : Int32)) := D1_ (Or.inl (jk hw 106 rfl)) (ty := .int) (by decide)
  have F1__start : jF8 Z h1_ b1_ (.int (0 : Int32)) := D1_ (Or.inl (jk hw 108 rfl)) (ty := .int) (by decide)
  have F1__lastGap : jF13 Z h1_ b1_ (.long (0 : Int64)) := D1_ (Or.inl (jk hw 124 rfl)) (ty := .long) (by decide)
  have F1__lastFrom : jF6 Z h1_ b1_ (.long (0 : Int64)) := D1_ (Or.inl (jk hw 126 rfl)) (ty := .long) (by decide)
  have F1__lastTo : jF5 Z h1_ b1_ (.long (0 : Int64)) := D1_ (Or.inl (jk hw 128 rfl)) (ty := .long) (by decide)
  refine own_fin st1_ ?_
  refine jg T1_ mM 57 ll1 [(.ref b1_), (.ref b1_)] (fun tT kK => ?_) ?_
  · refine XS.dup X1_.here hx rfl (hC e9_45.2.2.1) rfl rfl ?_
    exact kK
  obtain ⟨_, _, ⟨T11_, L11_, k11_, n11_⟩, -, X11_, ⟨Lc11_, hQ11_, l11_, y11_, z11_⟩, st11_⟩ := own_specialRef X1_ hx hZ (y := jy7) rfl hown (jk hw 56 rfl) (jk hw 57 rfl) (jm hZ hw 58 rfl) (by decide) (backOf (W := 1) (rm_pg lL Z a0 hw [] b1_ nb h1_ n0 (Nat.le_trans Z0 K1_.1) A1_ F1__size F1__firstFrom F1__firstTo F1__bytes F1__start F1__end F1__lastAt F1__lastGap F1__lastFrom F1__lastTo Zb fc9_ ge_b1_) hZ (jk hw 58 rfl) (jk hw 55 rfl) (by decide) (by decide)) (g := (mkF mM 57 ll1 [(.ref b1_), (.ref b1_)])) rfl (by rw [hml]; rfl) (Steps.refl _) (a := b1_) (argsL := []) (rest := [(.ref b1_)]) (lenOf own_pd5 rfl) rfl (by show 2 * 0 + _ ≤ _; exact Nat.le_of_eq rfl) (hC e9_45.2.2.2) (fun _ _ => ⟨rfl, e1_, (by decide : 1 + 0 ≤ _), (by decide : 10 + 0 ≤ _)⟩)
  dsimp only [Pt.U, Pt.locs, Pt.cells, Pt.slots] at X11_ l11_ y11_ z11_ st11_ hQ11_
  subst l11_ y11_ z11_
  obtain ⟨rfl, N11_q, p11__0, p11__1, p11__2, p11__3, p11__4, p11__5, p11__6, p11__7, p11__8, p11__9, p11__10, p11__11⟩ := hQ11_
  have N11_ := Fr.app N0 N11_q
  have fc12_ := fc4_.keep p11__0
  have fc13_ := fc5_.keep p11__0 (ninS ne2_ nin0)
  have fc14_ := fc6_.keep p11__0 (ninS ne2_ nin0)
  have fc15_ := fc7_.keep p11__0 (ninS ne2_ nin0)
  have fc16_ := fc8_.keep p11__0 (ninS ne2_ nin0)
  have fc18_ := fc10_.keep p11__0 (ninS ne3_ nin0)
  have K11_ := K1_.trans p11__0 (allS (Or.inr sz_b1_) all0)
  refine own_fin (fun tT kK => st11_.trans kK) ?_
  let ll2 : Array Slot := #[vR st, vI (-1), vJ f, vS, vJ t, vS, vR b1_, vU, vU]
  refine jg T11_ mM 70 ll2 [(.int (1 : Int32)), (.int (0 : Int32)), (.int (0 : Int32)), (.ref st)] (fun tT kK => ?_) ?_
  · refine XS.astore X11_.here hx rfl (hC e9_60.1) rfl rfl (l' := ll2) rfl ?_
    refine XS.aloadN X11_.here hx rfl (hC e9_60.2.1) rfl rfl ?_
    refine XS.iloadN X11_.here hx rfl (hC e9_60.2.2.1) rfl ?_
    refine XS.iconst X11_.here hx rfl (hC e9_60.2.2.2) ?_
    refine XS.iadd X11_.here hx rfl (hC e9_65.1) rfl ?_
    refine XS.iloadN X11_.here hx rfl (hC e9_65.2.1) rfl ?_
    refine XS.iconst X11_.here hx rfl (hC e9_65.2.2.1) ?_
    refine XS.iadd X11_.here hx rfl (hC e9_65.2.2.2) rfl ?_
    refine XS.iconst X11_.here hx rfl (hC e9_69.1) ?_
    exact kK
  obtain ⟨T20_, h20_, k20_, X20_, e20_, E20_, A20_, O20_, st20_⟩ := newR X11_ hx hZ hown (jk hw 53 rfl) (jk hw 66 rfl) rfl (g := (mkF mM 70 ll2 [(.int (1 : Int32)), (.int (0 : Int32)), (.int (0 : Int32)), (.ref st)])) rfl (hC e9_69.2.1) rfl (by decide) (cap := 1) (by decide) (by decide) (by decide) (by decide)
  obtain ⟨b20_, g20_⟩ : ∃ z, z = T11_.heap.size := ⟨_, rfl⟩
  rw [← g20_] at A20_ st20_
  have sz_b20_ : h0.size ≤ b20_ := Nat.le_trans K11_.1 (Nat.le_of_eq g20_.symm)
  have ge_b20_ : n0 ≤ b20_ := Nat.le_trans Z0 sz_b20_
  have ne21_ : st ≠ b20_ := Nat.ne_of_lt (Nat.lt_of_lt_of_le fc12_.lt (Nat.le_of_eq g20_.symm))
  have ne22_ : np ≠ b20_ := Nat.ne_of_lt (Nat.lt_of_lt_of_le fc18_.lt (Nat.le_of_eq g20_.symm))
  have ne23_ : b1_ ≠ b20_ := Nat.ne_of_lt (Nat.lt_of_lt_of_le p11__1.lt (Nat.le_of_eq g20_.symm))
  have fc24_ := fc12_.ext E20_
  have fc25_ := fc13_.ext E20_
  have fc26_ := fc14_.ext E20_
  have fc27_ := fc15_.ext E20_
  have fc28_ := fc16_.ext E20_
  have fc30_ := fc18_.ext E20_
  have fc31_ := p11__1.ext E20_
  have fc32_ := p11__2.ext E20_
  have fc33_ := p11__3.ext E20_
  have fc34_ := p11__4.ext E20_
  have fc35_ := p11__5.ext E20_
  have fc36_ := p11__6.ext E20_
  have fc37_ := p11__7.ext E20_
  have fc38_ := p11__8.ext E20_
  have fc39_ := p11__9.ext E20_
  have fc40_ := p11__10.ext E20_
  have fc41_ := p11__11.ext E20_
  have K20_ := K11_.ext E20_
  have V20_ : Arv Z h20_ b20_ k20_ (.object "com/example/portion/portion/server/OffsetSet$Page") (1 : Int32) [.null] .null := (Arv.new A20_ (by decide)).pad (pad_rep [] .null 1)
  refine own_fin st20_ ?_
  refine jg T20_ mM 77 ll2 [(.ref b1_), (.int (0 : Int32)), (.ref b20_), (.ref b20_), (.int (0 : Int32)), (.int (0 : Int32)), (.ref st)] (fun tT kK => ?_) ?_
  · refine XS.dup X20_.here hx rfl (hC e9_69.2.2.1) rfl rfl ?_
    refine XS.iconst X20_.here hx rfl (hC e9_69.2.2.2) ?_
    refine XS.aload X20_.here hx rfl (hC e9_75.1) rfl rfl ?_
    exact kK
  obtain ⟨cl42_, Ar42_, qk42_, Sz42_, Nn42_, Hh42_, Gg42_⟩ := id V20_
  have hin43_ : ¬ ((0 : Int32) < 0 ∨ cl42_.slots.size ≤ ((0 : Int32)).toNatClampNeg) := inb_of Sz42_ ⟨by decide, by decide⟩
  obtain ⟨T43_, h43_, X43_, e43_, W43_, st43_⟩ := stR X20_ hx hZ e20_ Ar42_ (j := (0 : Int32)) hin43_ rfl (Sto.ofV Ar42_ qk42_ O20_ (Ins.self fc31_)) (g := (mkF mM 77 ll2 [(.ref b1_), (.int (0 : Int32)), (.ref b20_), (.ref b20_), (.int (0 : Int32)), (.int (0 : Int32)), (.ref st)])) rfl rfl (hC e9_75.2.1)
  have V43_ : Arv Z h43_ b20_ k20_ (.object "com/example/portion/portion/server/OffsetSet$Page") (1 : Int32) [(.ref b1_)] .null := Arv.set Ar42_ qk42_ Sz42_ Nn42_ Hh42_ Gg42_ rfl W43_ 0 rfl (Nat.le_of_ble_eq_true rfl)
  have fc44_ := fc24_.wr W43_
  have fc45_ := fc25_.other W43_ (Or.inl ne21_)
  have fc46_ := fc26_.other W43_ (Or.inl ne21_)
  have fc47_ := fc27_.other W43_ (Or.inl ne21_)
  have fc48_ := fc28_.other W43_ (Or.inl ne21_)
  have fc50_ := fc30_.other W43_ ne22_
  have fc51_ := fc31_.wr W43_
  have fc52_ := fc32_.other W43_ (Or.inl ne23_)
  have fc53_ := fc33_.other W43_ (Or.inl ne23_)
  have fc54_ := fc34_.other W43_ (Or.inl ne23_)
  have fc55_ := fc35_.other W43_ (Or.inl ne23_)
  have fc56_ := fc36_.other W43_ (Or.inl ne23_)
  have fc57_ := fc37_.other W43_ (Or.inl ne23_)
  have fc58_ := fc38_.other W43_ (Or.inl ne23_)
  have fc59_ := fc39_.other W43_ (Or.inl ne23_)
  have fc60_ := fc40_.other W43_ (Or.inl ne23_)
  have fc61_ := fc41_.other W43_ (Or.inl ne23_)
  have K43_ := K20_.wr W43_ (Or.inr sz_b20_)
  have N43_ := Fr.snoc X43_ N11_ ge_b20_
  refine own_fin st43_ ?_
  refine jg T43_ mM 79 ll2 [(.int (1 : Int32)), (.ref b20_), (.int (0 : Int32)), (.int (0 : Int32)), (.ref st)] (fun tT kK => ?_) ?_
  · refine XS.iconst X43_.here hx rfl (hC e9_75.2.2.1) ?_
    exact kK
  refine jw X43_ hx hZ (y := jy8) hown (jk hw 68 rfl) (jk hw 69 rfl) (own_selP (y := jy8) hZ (jk hw 6 rfl) (jk hw 70 rfl) (jk hw 69 rfl) (by decide)) (jk hw 70 rfl) (jk hw 71 rfl) (jk hw 7 rfl) (rm_rpa lL Z a0 hw [] st b20_ b1_ np kp k20_ (0 : Int64) pb h43_ n0 (Nat.le_trans Z0 K43_.1) fc44_ fc45_ fc46_ fc47_ fc48_ fc50_ V43_ fc51_ g_st ne21_ ne2_ ne_st_np (Ne.symm ne23_) (Ne.symm ne22_) (Ne.symm ne3_)) fc44_ e43_ own_pd6 [(.int (0 : Int32)), (.int (0 : Int32)), (.ref b20_), (.int (1 : Int32))] [] (hC e9_75.2.2.2) rfl rfl (by rw [hml]; rfl) (by decide) 0 (Nat.le_of_eq rfl) (by decide) (by decide) (by decide : 2 + 1 ≤ _) (by decide : 11 + 2 ≤ _) fun vv62_ T62_ L62_ X62_ hQ62_ => ?_
  obtain ⟨pa_62_, kq_62_, rfl, N62_q, p62__0, p62__1, p62__2, p62__3, p62__4, p62__5, p62__6, p62__7, p62__8⟩ := hQ62_
  have N62_ := Fr.app N43_ N62_q
  have sz_pa_62_ : h0.size ≤ pa_62_ := Nat.le_trans K43_.1 p62__1
  have ne63_ : st ≠ pa_62_ := Nat.ne_of_lt (Nat.lt_of_lt_of_le fc44_.lt p62__1)
  have ne65_ : b1_ ≠ pa_62_ := Nat.ne_of_lt (Nat.lt_of_lt_of_le fc51_.lt p62__1)
  have fc70_ := fc51_.keep p62__0
  have fc71_ := fc52_.keep p62__0 (ninS (Ne.symm ne2_) nin0)
  have fc72_ := fc53_.keep p62__0 (ninS (Ne.symm ne2_) nin0)
  have fc73_ := fc54_.keep p62__0 (ninS (Ne.symm ne2_) nin0)
  have fc74_ := fc55_.keep p62__0 (ninS (Ne.symm ne2_) nin0)
  have fc75_ := fc56_.keep p62__0 (ninS (Ne.symm ne2_) nin0)
  have fc76_ := fc57_.keep p62__0 (ninS (Ne.symm ne2_) nin0)
  have fc77_ := fc58_.keep p62__0 (ninS (Ne.symm ne2_) nin0)
  have fc78_ := fc59_.keep p62__0 (ninS (Ne.symm ne2_) nin0)
  have fc79_ := fc60_.keep p62__0 (ninS (Ne.symm ne2_) nin0)
  have fc80_ := fc61_.keep p62__0 (ninS (Ne.symm ne2_) nin0)
  have K62_ := K43_.trans p62__0 (allS (Or.inl (List.mem_of_getElem? (i := 0) rfl)) all0)
  refine jg T62_ mM 84 ll2 [(.ref b1_)] (fun tT kK => ?_) ?_
  · refine XS.aload X62_.here hx rfl (hC e9_82.1) rfl rfl ?_
    exact kK
  obtain ⟨T82_, X82_, e82_, st82_⟩ := own_getRef X62_ hx hZ hown (jk hw 76 rfl) Via.refl rfl fc71_ (g := (mkF mM 84 ll2 [(.ref b1_)])) rfl rfl (hC e9_82.2.1)
  refine own_fin st82_ ?_
  let ll3 : Array Slot := #[vR st, vI (-1), vJ f, vS, vJ t, vS, vR b1_, vJ 0, vS]
  refine jg T82_ mM 94 ll3 [(.long t), (.long f), (.ref b1_)] (fun tT kK => ?_) ?_
  · refine XS.lstore X82_.here hx rfl (hC e9_82.2.2.1) rfl (l' := ll3) rfl ?_
    refine XS.aload X82_.here hx rfl (hC e9_82.2.2.2) rfl rfl ?_
    refine XS.lloadN X82_.here hx rfl (hC e9_91.1) rfl ?_
    refine XS.lload X82_.here hx rfl (hC e9_91.2.1) rfl ?_
    exact kK
  refine jv X82_ hx hZ (y := jy14) hown (jk hw 78 rfl) (jk hw 79 rfl) (jk hw 81 rfl) (jk hw 80 rfl) (jk hw 82 rfl) (jk hw 55 rfl) (rm_exa lL Z a0 hw [] b1_ nb f t T62_.heap n0 (Nat.le_trans Z0 K62_.1) fc70_ fc71_ fc72_ fc73_ fc74_ fc75_ fc76_ fc77_ fc78_ fc79_ fc80_ ge_b1_) fc70_ e82_ own_pd7 [(.long f), (.long t)] [] (hC e9_91.2.2) rfl rfl (by rw [hml]; rfl) (by decide) 0 (Nat.le_of_eq rfl) (by decide) (by decide) (by decide : 3 + 0 ≤ _) (by decide : 13 + 0 ≤ _) fun vv83_ T83_ L83_ X83_ hQ83_ => ?_
  obtain ⟨rfl, N83_q, p83__0, p83__1, p83__2, p83__3, p83__4, p83__5, p83__6, p83__7, p83__8, p83__9, p83__10, p83__11⟩ := hQ83_
  have N83_ := Fr.app N62_ N83_q
  have fc84_ := p62__3.keep p83__0
  have fc89_ := p62__4.keep p83__0 (ninS ne2_ nin0)
  have fc90_ := p62__5.keep p83__0 (ninS ne2_ nin0)
  have fc91_ := p62__6.keep p83__0 (ninS ne2_ nin0)
  have fc92_ := p62__7.keep p83__0 (ninS ne2_ nin0)
  have fc93_ := p62__8.keep p83__0 (ninS (Ne.symm ne65_) nin0)
  have K83_ := K62_.trans p83__0 (allS (Or.inr sz_b1_) all0)
  refine jg T83_ mM 99 ll3 [(.ref st), (.ref st)] (fun tT kK => ?_) ?_
  · refine XS.aloadN X83_.here hx rfl (hC e9_97.1) rfl rfl ?_
    refine XS.dup X83_.here hx rfl (hC e9_97.2.1) rfl rfl ?_
    exact kK
  refine jf X83_ hx hZ hown (jk hw 43 rfl) rfl fc89_ (hC e9_97.2.2.1) fun T94_ X94_ e94_ => ?_
  refine jg T94_ mM 104 ll3 [(.ref b1_), (.long (0 : Int64)), (.ref st)] (fun tT kK => ?_) ?_
  · refine XS.aload X94_.here hx rfl (hC e9_97.2.2.2) rfl rfl ?_
    exact kK
  obtain ⟨T95_, X95_, e95_, st95_⟩ := own_getRef X94_ hx hZ hown (jk hw 76 rfl) Via.refl e94_ p83__2 (g := (mkF mM 104 ll3 [(.ref b1_), (.long (0 : Int64)), (.ref st)])) rfl rfl (hC e9_104.1)
  refine own_fin st95_ ?_
  refine jg T95_ mM 111 ll3 [(.long ((0 : Int64) + ((t - f) - (0 : Int64)))), (.ref st)] (fun tT kK => ?_) ?_
  · refine XS.lload X95_.here hx rfl (hC e9_104.2.1) rfl ?_
    refine XS.lsub X95_.here hx rfl (hC e9_104.2.2.1) rfl ?_
    refine XS.ladd X95_.here hx rfl (hC e9_104.2.2.2) rfl ?_
    exact kK
  refine jq X95_ hx hZ hown (jk hw 43 rfl) e95_ fc89_ fc84_ (jk hw 44 rfl) (jk hw 6 rfl) (ty := .long) (by decide) rfl rfl (hC e9_111.1) K83_ N83_ (Or.inl (List.mem_of_getElem? (i := 0) rfl)) g_st fun T96_ h96_ X96_ e96_ W96_ Fw96_ K96_ N96_ => ?_
  have fc97_ := fc84_.wr W96_
  have fc100_ := p83__1.wr W96_
  have fc102_ := fc90_.other W96_ (Or.inr (js0 hw).symm)
  have fc103_ := fc91_.other W96_ (Or.inr (js22 hw).symm)
  have fc104_ := fc92_.other W96_ (Or.inr (js3 hw).symm)
  have fc105_ := fc93_.other W96_ (Ne.symm ne63_)
  have fc106_ := p83__2.other W96_ (Or.inl (Ne.symm ne2_))
  have fc107_ := p83__3.other W96_ (Or.inl (Ne.symm ne2_))
  have fc108_ := p83__4.other W96_ (Or.inl (Ne.symm ne2_))
  have fc109_ := p83__5.other W96_ (Or.inl (Ne.symm ne2_))
  have fc110_ := p83__6.other W96_ (Or.inl (Ne.symm ne2_))
  have fc111_ := p83__7.other W96_ (Or.inl (Ne.symm ne2_))
  have fc112_ := p83__8.other W96_ (Or.inl (Ne.symm ne2_))
  have fc113_ := p83__9.other W96_ (Or.inl (Ne.symm ne2_))
  have fc114_ := p83__10.other W96_ (Or.inl (Ne.symm ne2_))
  have fc115_ := p83__11.other W96_ (Or.inl (Ne.symm ne2_))
  exact own_rV X96_ hx hlk hre (hC e9_111.2) e96_ (by decide) (by decide) ⟨b1_, pa_62_, kq_62_, rfl, N96_, K96_, sz_b1_, sz_pa_62_, ne65_, p62__2, fc97_, Fw96_, fc102_, fc103_, fc104_, fc100_, fc106_, fc107_, fc108_, fc109_, fc110_, fc111_, fc112_, fc113_, fc114_, fc115_, fc105_⟩
theorem e8_0 : jD17 0 (.aload_n 0, 1) ∧ jD17 1 (.aload_n 0, 1) ∧ jD17 2 (.getfield 109, 3) ∧ jD17 5 (.iconst 1, 1) := by decide +kernel
theorem e8_6 : jD17 6 (.isub, 1) ∧ jD17 7 (.lload_n 1, 1) ∧ jD17 8 (.lload_n 3, 1) ∧ jD17 9 (.invokevirtual 78, 3) := by decide +kernel
theorem own_pd8 : parseMethodDescriptor "(IJJ)V" = some ⟨[.int, .long, .long], none⟩ := by decide +kernel
theorem d8_12 : jD17 12 (.return_, 1) := by decide +kernel
theorem own_ef_rm_app (mM : MethodId) (x0 : Addr) (x1 : Int64) (x2 : Int64) : entryFrame mM #[(.ref x0), (.long x1), (.long x2)] 5 = mkF mM 0 #[.val (.ref x0), .val (.long x1), .second, .val (.long x2), .second] [] := by first | (simp [entryFrame, mkF, argsToLocals, Value.category]; done) | rfl
def Q_rm_app (Z : State) (st : Addr) (np : Addr) (nb : Addr) (kp : ClassId) (pb : Int32) (f : Int64) (t : Int64) (h0 : Heap) (n0 : Nat) (vV : Option Value) (hH : Heap) (lA : List Loc) : Prop := ∃ pg : Addr, ∃ pa : Addr, ∃ kq : ClassId, vV = none ∧ Fr n0 lA ∧ (Keep h0 hH [st]) ∧ (h0.size ≤ pg) ∧ (h0.size ≤ pa) ∧ (pg ≠ pa) ∧ (Ovr Z kq "com/example/portion/portion/server/OffsetSet$Page") ∧ (jE0 Z hH st) ∧ (jF9 Z hH st (.long ((0 : Int64) + ((t - f) - (0 : Int64))))) ∧ (jF1 Z hH st (.ref pa)) ∧ (jF0 Z hH st (.int (1 : Int32))) ∧ (jF10 Z hH st (.int pb)) ∧ (jE1 Z hH pg) ∧ (jF11 Z hH pg (.long (t - f))) ∧ (jF2 Z hH pg (.long f)) ∧ (jF4 Z hH pg (.long t)) ∧ (jF12 Z hH pg (.ref nb)) ∧ (jF8 Z hH pg (.int (0 : Int32))) ∧ (jF7 Z hH pg (.int (0 : Int32))) ∧ (jF3 Z hH pg (.int (-1 : Int32))) ∧ (jF13 Z hH pg (.long (0 : Int64))) ∧ (jF6 Z hH pg (.long (0 : Int64))) ∧ (jF5 Z hH pg (.long (0 : Int64))) ∧ (Arv Z hH pa kq (.object "com/example/portion/portion/server/OffsetSet$Page") (2 : Int32) [(.ref pg), .null] .null)
set_option maxRecDepth 65536 in
set_option maxHeartbeats 40000000 in
theorem rm_app (lL : Launch) (Z : State) (a0 : Array Value) (hw : own_H a0 Z) (ws : List Jvm.Cond) (st : Addr) (np : Addr) (nb : Addr) (kp : ClassId) (pb : Int32) (f : Int64) (t : Int64) (h0 : Heap) (n0 : Nat) (Z0 : n0 ≤ h0.size) (F0 : jE0 Z h0 st) (F1 : jF9 Z h0 st (.long (0 : Int64))) (F2 : jF1 Z h0 st (.ref np)) (F3 : jF0 Z h0 st (.int (0 : Int32))) (F4 : jF10 Z h0 st (.int pb)) (Zb : Sta Z Z.heap "com/example/portion/portion/server/OffsetSet" "NO_BYTES" "[B" (.ref nb)) (O0 : Old Z n0 h0) (Vn : Arv Z h0 np kp (.object "com/example/portion/portion/server/OffsetSet$Page") (0 : Int32) [] .null) (g_st : n0 ≤ st) (ne_st_np : st ≠ np) :
    own_Met lL jy17 (Jvm.Cond.code jy17 prog_38_method_19_code 5 none :: ws) jr13 #[(.ref st), (.long f), (.long t)] Z h0 (Q_rm_app Z st np nb kp pb f t h0 n0) := by
  refine own_begin (plainFor_of_name own_pn_com_example_portion_portion_server_OffsetSet) (fun mM => own_ef_rm_app mM st f t) fun pP eE sS mM below meth cC s₁ hx hby hml hZ hown hnm hre hlk X0 e0 => ?_
  have hC := @Jvm.hb _ _ hby
  have N0 := Fr.nil n0
  have K0 := Keep.refl h0 [st]
  let ll1 : Array Slot := #[vR st, vJ f, vS, vJ t, vS]
  refine jg s₁ mM 2 ll1 [(.ref st), (.ref st)] (fun tT kK => ?_) ?_
  · refine XS.aloadN X0.here hx rfl (hC e8_0.1) rfl rfl ?_
    refine XS.aloadN X0.here hx rfl (hC e8_0.2.1) rfl rfl ?_
    exact kK
  refine jf X0 hx hZ hown (jk hw 37 rfl) e0 F3 (hC e8_0.2.2.1) fun T1_ X1_ e1_ => ?_
  refine jg T1_ mM 9 ll1 [(.long t), (.long f), (.int (-1 : Int32)), (.ref st)] (fun tT kK => ?_) ?_
  · refine XS.iconst X1_.here hx rfl (hC e8_0.2.2.2) ?_
    refine XS.isub X1_.here hx rfl (hC e8_6.1) rfl ?_
    refine XS.lloadN X1_.here hx rfl (hC e8_6.2.1) rfl ?_
    refine XS.lloadN X1_.here hx rfl (hC e8_6.2.2.1) rfl ?_
    exact kK
  refine jw X1_ hx hZ (y := jy16) hown (jk hw 49 rfl) (jk hw 50 rfl) (own_selP (y := jy16) hZ (jk hw 6 rfl) (jk hw 51 rfl) (jk hw 50 rfl) (by decide)) (jk hw 51 rfl) (jk hw 52 rfl) (jk hw 7 rfl) (rm_ata lL Z a0 hw [] st np nb kp pb f t h0 n0 (Nat.le_trans Z0 K0.1) F0 F1 F2 F3 F4 Zb O0 Vn g_st ne_st_np) F0 e1_ own_pd8 [(.int (-1 : Int32)), (.long f), (.long t)] [] (hC e8_6.2.2.2) rfl rfl (by rw [hml]; rfl) (by decide) 0 (Nat.le_of_eq rfl) (by decide) (by decide) (by decide : 0 + 3 ≤ _) (by decide : 0 + 13 ≤ _) fun vv2_ T2_ L2_ X2_ hQ2_ => ?_
  obtain ⟨pg_2_, pa_2_, kq_2_, rfl, N2_q, p2__0, p2__1, p2__2, p2__3, p2__4, p2__5, p2__6, p2__7, p2__8, p2__9, p2__10, p2__11, p2__12, p2__13, p2__14, p2__15, p2__16, p2__17, p2__18, p2__19, p2__20, p2__21⟩ := hQ2_
  have N2_ := Fr.app N0 N2_q
  have sz_pg_2_ : h0.size ≤ pg_2_ := Nat.le_trans K0.1 p2__1
  have sz_pa_2_ : h0.size ≤ pa_2_ := Nat.le_trans K0.1 p2__2
  have K2_ := K0.trans p2__0 (allS (Or.inl (List.mem_of_getElem? (i := 0) rfl)) all0)
  exact own_rV X2_ hx hlk hre (hC d8_12) rfl (by decide) (by decide) ⟨pg_2_, pa_2_, kq_2_, rfl, N2_, K2_, sz_pg_2_, sz_pa_2_, p2__3, p2__4, p2__5, p2__6, p2__7, p2__8, p2__9, p2__10, p2__11, p2__12, p2__13, p2__14, p2__15, p2__16, p2__17, p2__18, p2__19, p2__20, p2__21⟩
theorem e4_0 : jD18 0 (.lload_n 1, 1) ∧ jD18 1 (.lload_n 3, 1) ∧ jD18 2 (.invokestatic 63, 3) ∧ jD18 5 (.iconst 0, 1) := by decide +kernel
theorem e4_6 : jD18 6 (.aload_n 0, 1) ∧ jD18 7 (.lload_n 1, 1) ∧ jD18 8 (.invokevirtual 51, 3) := by decide +kernel
theorem own_pd9 : parseMethodDescriptor "(J)I" = some ⟨[.long], some .int⟩ := by decide +kernel
theorem e4_11 : jD18 11 (.invokestatic 66, 3) ∧ jD18 14 (.istore 5, 2) ∧ jD18 16 (.iconst 0, 1) ∧ jD18 17 (.aload_n 0, 1) := by decide +kernel
theorem e4_18 : jD18 18 (.lload_n 3, 1) ∧ jD18 19 (.invokevirtual 51, 3) ∧ jD18 22 (.invokestatic 66, 3) ∧ jD18 25 (.istore 6, 2) := by decide +kernel
theorem e4_27 : jD18 27 (.aload_n 0, 1) ∧ jD18 28 (.getfield 23, 3) ∧ jD18 31 (.lconst 0, 1) ∧ jD18 32 (.lcmp, 1) := by decide +kernel
theorem e4_33 : jD18 33 (.ifCond .ne 12, 3) ∧ jD18 36 (.aload_n 0, 1) ∧ jD18 37 (.lload_n 1, 1) ∧ jD18 38 (.lload_n 3, 1) := by decide +kernel
theorem e4_39 : jD18 39 (.invokevirtual 72, 3) ∧ jD18 42 (.goto 81, 3) ∧ jD18 123 (.return_, 1) := by decide +kernel
theorem own_ef_rm_ar0 (mM : MethodId) (x0 : Addr) (x1 : Int64) (x2 : Int64) : entryFrame mM #[(.ref x0), (.long x1), (.long x2)] 8 = mkF mM 0 #[.val (.ref x0), .val (.long x1), .second, .val (.long x2), .second, .unset, .unset, .unset] [] := by first | (simp [entryFrame, mkF, argsToLocals, Value.category]; done) | rfl
def Q_rm_ar0 (Z : State) (st : Addr) (np : Addr) (nb : Addr) (kp : ClassId) (pb : Int32) (f : Int64) (t : Int64) (h0 : Heap) (n0 : Nat) (vV : Option Value) (hH : Heap) (lA : List Loc) : Prop := ∃ pg : Addr, ∃ pa : Addr, ∃ kq : ClassId, vV = none ∧ Fr n0 lA ∧ (Keep h0 hH [st]) ∧ (h0.size ≤ pg) ∧ (h0.size ≤ pa) ∧ (pg ≠ pa) ∧ (Ovr Z kq "com/example/portion/portion/server/OffsetSet$Page") ∧ (jE0 Z hH st) ∧ (jF9 Z hH st (.long ((0 : Int64) + ((t - f) - (0 : Int64))))) ∧ (jF1 Z hH st (.ref pa)) ∧ (jF0 Z hH st (.int (1 : Int32))) ∧ (jF10 Z hH st (.int pb)) ∧ (jE1 Z hH pg) ∧ (jF11 Z hH pg (.long (t - f))) ∧ (jF2 Z hH pg (.long f)) ∧ (jF4 Z hH pg (.long t)) ∧ (jF12 Z hH pg (.ref nb)) ∧ (jF8 Z hH pg (.int (0 : Int32))) ∧ (jF7 Z hH pg (.int (0 : Int32))) ∧ (jF3 Z hH pg (.int (-1 : Int32))) ∧ (jF13 Z hH pg (.long (0 : Int64))) ∧ (jF6 Z hH pg (.long (0 : Int64))) ∧ (jF5 Z hH pg (.long (0 : Int64))) ∧ (Arv Z hH pa kq (.object "com/example/portion/portion/server/OffsetSet$Page") (2 : Int32) [(.ref pg), .null] .null)
set_option maxRecDepth 65536 in
set_option maxHeartbeats 40000000 in
theorem rm_ar0 (lL : Launch) (Z : State) (a0 : Array Value) (hw : own_H a0 Z) (ws : List Jvm.Cond) (st : Addr) (np : Addr) (nb : Addr) (kp : ClassId) (pb : Int32) (f : Int64) (t : Int64) (h0 : Heap) (n0 : Nat) (Z0 : n0 ≤ h0.size) (F0 : jE0 Z h0 st) (F1 : jF9 Z h0 st (.long (0 : Int64))) (F2 : jF1 Z h0 st (.ref np)) (F3 : jF0 Z h0 st (.int (0 : Int32))) (F4 : jF10 Z h0 st (.int pb)) (Zb : Sta Z Z.heap "com/example/portion/portion/server/OffsetSet" "NO_BYTES" "[B" (.ref nb)) (O0 : Old Z n0 h0) (Vn : Arv Z h0 np kp (.object "com/example/portion/portion/server/OffsetSet$Page") (0 : Int32) [] .null) (g_st : n0 ≤ st) (ne_st_np : st ≠ np) (c1 : ¬ (f < (0 : Int64))) (c2 : f < t) :
    own_Met lL jy18 (Jvm.Cond.code jy18 prog_38_method_9_code 8 none :: ws) jr14 #[(.ref st), (.long f), (.long t)] Z h0 (Q_rm_ar0 Z st np nb kp pb f t h0 n0) := by
  refine own_begin (plainFor_of_name own_pn_com_example_portion_portion_server_OffsetSet) (fun mM => own_ef_rm_ar0 mM st f t) fun pP eE sS mM below meth cC s₁ hx hby hml hZ hown hnm hre hlk X0 e0 => ?_
  have hC := @Jvm.hb _ _ hby
  have N0 := Fr.nil n0
  have K0 := Keep.refl h0 [st]
  let ll1 : Array Slot := #[vR st, vJ f, vS, vJ t, vS, vU, vU, vU]
  refine jg s₁ mM 2 ll1 [(.long t), (.long f)] (fun tT kK => ?_) ?_
  · refine XS.lloadN X0.here hx rfl (hC e4_0.1) rfl ?_
    refine XS.lloadN X0.here hx rfl (hC e4_0.2.1) rfl ?_
    exact kK
  refine jc X0 hx hZ (y := jy0) hown (jk hw 30 rfl) (jk hw 31 rfl) (jk hw 7 rfl) (jk hw 32 rfl) (rm_req lL Z a0 hw [] f t h0 n0 (Nat.le_trans Z0 K0.1) c1 c2) e0 own_pd7 [(.long f), (.long t)] [] (hC e4_0.2.2.1) rfl rfl (by rw [hml]; rfl) (by decide) 0 (Nat.le_of_eq rfl) (by decide) (by decide) (by decide : 0 + 0 ≤ _) (by decide : 0 + 0 ≤ _) fun vv1_ T1_ L1_ X1_ hQ1_ => ?_
  obtain ⟨rfl, N1_q, p1__0⟩ := hQ1_
  have N1_ := Fr.app N0 N1_q
  refine jg T1_ mM 8 ll1 [(.long f), (.ref st), (.int (0 : Int32))] (fun tT kK => ?_) ?_
  · refine XS.iconst X1_.here hx rfl (hC e4_0.2.2.2) ?_
    refine XS.aloadN X1_.here hx rfl (hC e4_6.1) rfl rfl ?_
    refine XS.lloadN X1_.here hx rfl (hC e4_6.2.1) rfl ?_
    exact kK
  refine jw X1_ hx hZ (y := jy2) hown (jk hw 33 rfl) (jk hw 34 rfl) (own_selP (y := jy2) hZ (jk hw 6 rfl) (jk hw 35 rfl) (jk hw 34 rfl) (by decide)) (jk hw 35 rfl) (jk hw 36 rfl) (jk hw 7 rfl) (rm_pa0 lL Z a0 hw [] st f h0 n0 (Nat.le_trans Z0 K0.1) F3) F0 p1__0 own_pd9 [(.long f)] [(.int (0 : Int32))] (hC e4_6.2.2) rfl rfl (by rw [hml]; rfl) (by decide) 1 (Nat.le_of_eq rfl) (by decide) (by decide) (by decide : 0 + 0 ≤ _) (by decide : 0 + 0 ≤ _) fun vv2_ T2_ L2_ X2_ hQ2_ => ?_
  obtain ⟨rfl, N2_q, p2__0⟩ := hQ2_
  have N2_ := Fr.app N1_ N2_q
  refine jc X2_ hx hZ (y := jy1) hown (jk hw 39 rfl) (jk hw 40 rfl) (jk hw 41 rfl) (jk hw 42 rfl) (rm_mxa lL Z a0 hw []  h0 n0 (Nat.le_trans Z0 K0.1) ) p2__0 own_pd1 [(.int (0 : Int32)), (.int (-1 : Int32))] [] (hC e4_11.1) rfl rfl (by rw [hml]; rfl) (by decide) 0 (Nat.le_of_eq rfl) (by decide) (by decide) (by decide : 0 + 0 ≤ _) (by decide : 0 + 0 ≤ _) fun vv3_ T3_ L3_ X3_ hQ3_ => ?_
  obtain ⟨rfl, N3_q, p3__0⟩ := hQ3_
  have N3_ := Fr.app N2_ N3_q
  let ll2 : Array Slot := #[vR st, vJ f, vS, vJ t, vS, vI 0, vU, vU]
  refine jg T3_ mM 19 ll2 [(.long t), (.ref st), (.int (0 : Int32))] (fun tT kK => ?_) ?_
  · refine XS.istore X3_.here hx rfl (hC e4_11.2.1) rfl (l' := ll2) rfl ?_
    refine XS.iconst X3_.here hx rfl (hC e4_11.2.2.1) ?_
    refine XS.aloadN X3_.here hx rfl (hC e4_11.2.2.2) rfl rfl ?_
    refine XS.lloadN X3_.here hx rfl (hC e4_18.1) rfl ?_
    exact kK
  refine jw X3_ hx hZ (y := jy2) hown (jk hw 33 rfl) (jk hw 34 rfl) (own_selP (y := jy2) hZ (jk hw 6 rfl) (jk hw 35 rfl) (jk hw 34 rfl) (by decide)) (jk hw 35 rfl) (jk hw 36 rfl) (jk hw 7 rfl) (rm_pa0 lL Z a0 hw [] st t h0 n0 (Nat.le_trans Z0 K0.1) F3) F0 p3__0 own_pd9 [(.long t)] [(.int (0 : Int32))] (hC e4_18.2.1) rfl rfl (by rw [hml]; rfl) (by decide) 1 (Nat.le_of_eq rfl) (by decide) (by decide) (by decide : 0 + 0 ≤ _) (by decide : 0 + 0 ≤ _) fun vv4_ T4_ L4_ X4_ hQ4_ => ?_
  obtain ⟨rfl, N4_q, p4__0⟩ := hQ4_
  have N4_ := Fr.app N3_ N4_q
  refine jc X4_ hx hZ (y := jy1) hown (jk hw 39 rfl) (jk hw 40 rfl) (jk hw 41 rfl) (jk hw 42 rfl) (rm_mxa lL Z a0 hw []  h0 n0 (Nat.le_trans Z0 K0.1) ) p4__0 own_pd1 [(.int (0 : Int32)), (.int (-1 : Int32))] [] (hC e4_18.2.2.1) rfl rfl (by rw [hml]; rfl) (by decide) 0 (Nat.le_of_eq rfl) (by decide) (by decide) (by decide : 0 + 0 ≤ _) (by decide : 0 + 0 ≤ _) fun vv5_ T5_ L5_ X5_ hQ5_ => ?_
  obtain ⟨rfl, N5_q, p5__0⟩ := hQ5_
  have N5_ := Fr.app N4_ N5_q
  let ll3 : Array Slot := #[vR st, vJ f, vS, vJ t, vS, vI 0, vI 0, vU]
  refine jg T5_ mM 28 ll3 [(.ref st)] (fun tT kK => ?_) ?_
  · refine XS.istore X5_.here hx rfl (hC e4_18.2.2.2) rfl (l' := ll3) rfl ?_
    refine XS.aloadN X5_.here hx rfl (hC e4_27.1) rfl rfl ?_
    exact kK
  refine jf X5_ hx hZ hown (jk hw 43 rfl) p5__0 F1 (hC e4_27.2.1) fun T6_ X6_ e6_ => ?_
  refine jg T6_ mM 39 ll3 [(.long t), (.long f), (.ref st)] (fun tT kK => ?_) ?_
  · refine XS.lconst X6_.here hx rfl (hC e4_27.2.2.1) ?_
    refine XS.lcmp X6_.here hx rfl (hC e4_27.2.2.2) rfl ?_
    refine XS.ifNo X6_.here hx rfl (hC e4_33.1) rfl ((if0 _ _).trans (teq ((lw_eq (0 : Int64) (0 : Int64)).mpr ((by decide) : (0 : Int64) = (0 : Int64)))).2) ?_
    refine XS.aloadN X6_.here hx rfl (hC e4_33.2.1) rfl rfl ?_
    refine XS.lloadN X6_.here hx rfl (hC e4_33.2.2.1) rfl ?_
    refine XS.lloadN X6_.here hx rfl (hC e4_33.2.2.2) rfl ?_
    exact kK
  refine jw X6_ hx hZ (y := jy17) hown (jk hw 45 rfl) (jk hw 46 rfl) (own_selP (y := jy17) hZ (jk hw 6 rfl) (jk hw 47 rfl) (jk hw 46 rfl) (by decide)) (jk hw 47 rfl) (jk hw 48 rfl) (jk hw 7 rfl) (rm_app lL Z a0 hw [] st np nb kp pb f t h0 n0 (Nat.le_trans Z0 K0.1) F0 F1 F2 F3 F4 Zb O0 Vn g_st ne_st_np) F0 e6_ own_pd7 [(.long f), (.long t)] [] (hC e4_39.1) rfl rfl (by rw [hml]; rfl) (by decide) 0 (Nat.le_of_eq rfl) (by decide) (by decide) (by decide : 0 + 3 ≤ _) (by decide : 0 + 13 ≤ _) fun vv7_ T7_ L7_ X7_ hQ7_ => ?_
  obtain ⟨pg_7_, pa_7_, kq_7_, rfl, N7_q, p7__0, p7__1, p7__2, p7__3, p7__4, p7__5, p7__6, p7__7, p7__8, p7__9, p7__10, p7__11, p7__12, p7__13, p7__14, p7__15, p7__16, p7__17, p7__18, p7__19, p7__20, p7__21⟩ := hQ7_
  have N7_ := Fr.app N5_ N7_q
  have sz_pg_7_ : h0.size ≤ pg_7_ := Nat.le_trans K0.1 p7__1
  have sz_pa_7_ : h0.size ≤ pa_7_ := Nat.le_trans K0.1 p7__2
  have K7_ := K0.trans p7__0 (allS (Or.inl (List.mem_of_getElem? (i := 0) rfl)) all0)
  refine jg T7_ mM 123 ll3 [] (fun tT kK => ?_) ?_
  · refine XS.goto X7_.here hx rfl (pc0 := 42) (pc' := 123) rfl (hC e4_39.2.1) (by decide) (by decide) ?_
    exact kK
  exact own_rV X7_ hx hlk hre (hC e4_39.2.2) rfl (by decide) (by decide) ⟨pg_7_, pa_7_, kq_7_, rfl, N7_, K7_, sz_pg_7_, sz_pa_7_, p7__3, p7__4, p7__5, p7__6, p7__7, p7__8, p7__9, p7__10, p7__11, p7__12, p7__13, p7__14, p7__15, p7__16, p7__17, p7__18, p7__19, p7__20, p7__21⟩
theorem e3_0 : jD19 0 (.aload_n 0, 1) ∧ jD19 1 (.lload_n 1, 1) ∧ jD19 2 (.lload_n 1, 1) ∧ jD19 3 (.lconst 1, 1) := by decide +kernel
theorem e3_4 : jD19 4 (.ladd, 1) ∧ jD19 5 (.invokevirtual 59, 3) ∧ jD19 8 (.return_, 1) := by decide +kernel
theorem own_ef_rm_add0 (mM : MethodId) (x0 : Addr) (x1 : Int64) : entryFrame mM #[(.ref x0), (.long x1)] 3 = mkF mM 0 #[.val (.ref x0), .val (.long x1), .second] [] := by first | (simp [entryFrame, mkF, argsToLocals, Value.category]; done) | rfl
def Q_rm_add0 (Z : State) (st : Addr) (np : Addr) (nb : Addr) (kp : ClassId) (pb : Int32) (f : Int64) (h0 : Heap) (n0 : Nat) (vV : Option Value) (hH : Heap) (lA : List Loc) : Prop := ∃ pg : Addr, ∃ pa : Addr, ∃ kq : ClassId, vV = none ∧ Fr n0 lA ∧ (Keep h0 hH [st]) ∧ (h0.size ≤ pg) ∧ (h0.size ≤ pa) ∧ (pg ≠ pa) ∧ (Ovr Z kq "com/example/portion/portion/server/OffsetSet$Page") ∧ (jE0 Z hH st) ∧ (jF9 Z hH st (.long (1 : Int64))) ∧ (jF1 Z hH st (.ref pa)) ∧ (jF0 Z hH st (.int (1 : Int32))) ∧ (jF10 Z hH st (.int pb)) ∧ (jE1 Z hH pg) ∧ (jF11 Z hH pg (.long (1 : Int64))) ∧ (jF2 Z hH pg (.long f)) ∧ (jF4 Z hH pg (.long (f + (1 : Int64)))) ∧ (jF12 Z hH pg (.ref nb)) ∧ (jF8 Z hH pg (.int (0 : Int32))) ∧ (jF7 Z hH pg (.int (0 : Int32))) ∧ (jF3 Z hH pg (.int (-1 : Int32))) ∧ (jF13 Z hH pg (.long (0 : Int64))) ∧ (jF6 Z hH pg (.long (0 : Int64))) ∧ (jF5 Z hH pg (.long (0 : Int64))) ∧ (Arv Z hH pa kq (.object "com/example/portion/portion/server/OffsetSet$Page") (2 : Int32) [(.ref pg), .null] .null)
set_option maxRecDepth 65536 in
set_option maxHeartbeats 40000000 in
theorem rm_add0 (lL : Launch) (Z : State) (a0 : Array Value) (hw : own_H a0 Z) (ws : List Jvm.Cond) (st : Addr) (np : Addr) (nb : Addr) (kp : ClassId) (pb : Int32) (f : Int64) (h0 : Heap) (n0 : Nat) (Z0 : n0 ≤ h0.size) (F0 : jE0 Z h0 st) (F1 : jF9 Z h0 st (.long (0 : Int64))) (F2 : jF1 Z h0 st (.ref np)) (F3 : jF0 Z h0 st (.int (0 : Int32))) (F4 : jF10 Z h0 st (.int pb)) (Zb : Sta Z Z.heap "com/example/portion/portion/server/OffsetSet" "NO_BYTES" "[B" (.ref nb)) (O0 : Old Z n0 h0) (Vn : Arv Z h0 np kp (.object "com/example/portion/portion/server/OffsetSet$Page") (0 : Int32) [] .null) (g_st : n0 ≤ st) (ne_st_np : st ≠ np) (c1 : ¬ (f < (0 : Int64))) (c2 : f < (f + (1 : Int64))) :
    own_Met lL jy19 (Jvm.Cond.code jy19 prog_38_method_8_code 3 none :: ws) jr15 #[(.ref st), (.long f)] Z h0 (Q_rm_add0 Z st np nb kp pb f h0 n0) := by
  refine own_begin (plainFor_of_name own_pn_com_example_portion_portion_server_OffsetSet) (fun mM => own_ef_rm_add0 mM st f) fun pP eE sS mM below meth cC s₁ hx hby hml hZ hown hnm hre hlk X0 e0 => ?_
  have hC := @Jvm.hb _ _ hby
  have N0 := Fr.nil n0
  have K0 := Keep.refl h0 [st]
  refine jg s₁ mM 5 #[vR st, vJ f, vS] [(.long (f + (1 : Int64))), (.long f), (.ref st)] (fun tT kK => ?_) ?_
  · refine XS.aloadN X0.here hx rfl (hC e3_0.1) rfl rfl ?_
    refine XS.lloadN X0.here hx rfl (hC e3_0.2.1) rfl ?_
    refine XS.lloadN X0.here hx rfl (hC e3_0.2.2.1) rfl ?_
    refine XS.lconst X0.here hx rfl (hC e3_0.2.2.2) ?_
    refine XS.ladd X0.here hx rfl (hC e3_4.1) rfl ?_
    exact kK
  refine jv X0 hx hZ (y := jy18) hown (jk hw 25 rfl) (jk hw 26 rfl) (jk hw 28 rfl) (jk hw 27 rfl) (jk hw 29 rfl) (jk hw 7 rfl) (rm_ar0 lL Z a0 hw [] st np nb kp pb f (f + (1 : Int64)) h0 n0 (Nat.le_trans Z0 K0.1) F0 F1 F2 F3 F4 Zb O0 Vn g_st ne_st_np c1 c2) F0 e0 own_pd7 [(.long f), (.long (f + (1 : Int64)))] [] (hC e3_4.2.1) rfl rfl (by rw [hml]; rfl) (by decide) 0 (Nat.le_of_eq rfl) (by decide) (by decide) (by decide : 0 + 3 ≤ _) (by decide : 0 + 13 ≤ _) fun vv1_ T1_ L1_ X1_ hQ1_ => ?_
  obtain ⟨pg_1_, pa_1_, kq_1_, rfl, N1_q, p1__0, p1__1, p1__2, p1__3, p1__4, p1__5, p1__6, p1__7, p1__8, p1__9, p1__10, p1__11, p1__12, p1__13, p1__14, p1__15, p1__16, p1__17, p1__18, p1__19, p1__20, p1__21⟩ := hQ1_
  have N1_ := Fr.app N0 N1_q
  have sz_pg_1_ : h0.size ≤ pg_1_ := Nat.le_trans K0.1 p1__1
  have sz_pa_1_ : h0.size ≤ pa_1_ := Nat.le_trans K0.1 p1__2
  have K1_ := K0.trans p1__0 (allS (Or.inl (List.mem_of_getElem? (i := 0) rfl)) all0)
  have Fs1 : jF9 Z T1_.heap st (.long (1 : Int64)) := own_sz1 f ▸ p1__6
  have Fg1 : jF11 Z T1_.heap pg_1_ (.long (1 : Int64)) := own_sz2 f ▸ p1__11
  exact own_rV X1_ hx hlk hre (hC e3_4.2.2) rfl (by decide) (by decide) ⟨pg_1_, pa_1_, kq_1_, rfl, N1_, K1_, sz_pg_1_, sz_pa_1_, p1__3, p1__4, p1__5, Fs1, p1__7, p1__8, p1__9, p1__10, Fg1, p1__12, p1__13, p1__14, p1__15, p1__16, p1__17, p1__18, p1__19, p1__20, p1__21⟩
theorem e9_8 : jD16 8 (.aload_n 0, 1) ∧ jD16 9 (.getfield 16, 3) ∧ jD16 12 (.iload_n 1, 1) ∧ jD16 13 (.aaload, 1) := by decide +kernel
theorem e9_21 : jD16 21 (.aload 6, 2) ∧ jD16 23 (.invokevirtual 145, 3) := by decide +kernel
theorem own_pd10 : parseMethodDescriptor "()I" = some ⟨[], some .int⟩ := by decide +kernel
theorem e9_26 : jD16 26 (.aload_n 0, 1) ∧ jD16 27 (.getfield 19, 3) ∧ jD16 30 (.if_icmp .lt 52, 3) := by decide +kernel
theorem own_ef_rm_atb (mM : MethodId) (x0 : Addr) (x1 : Int32) (x2 : Int64) (x3 : Int64) : entryFrame mM #[(.ref x0), (.int x1), (.long x2), (.long x3)] 9 = mkF mM 0 #[.val (.ref x0), .val (.int x1), .val (.long x2), .second, .val (.long x3), .second, .unset, .unset, .unset] [] := by first | (simp [entryFrame, mkF, argsToLocals, Value.category]; done) | rfl
def Q_rm_atb (Z : State) (st : Addr) (pa : Addr) (pg : Addr) (nb : Addr) (kq : ClassId) (kn : ClassId) (pb : Int32) (sz : Int64) (ff : Int64) (ft : Int64) (lg : Int64) (lf : Int64) (lt : Int64) (f : Int64) (t : Int64) (zs : Int64) (h0 : Heap) (n0 : Nat) (vV : Option Value) (hH : Heap) (lA : List Loc) : Prop := ∃ ba : Addr, ∃ kb : ClassId, ∃ en : Int32, ∃ vs : List Value, vV = none ∧ Fr n0 lA ∧ (Keep h0 hH [st, pg]) ∧ (h0.size ≤ ba) ∧ (vs.length = 28) ∧ (1 ≤ en.toInt ∧ en.toInt ≤ 7) ∧ (jE0 Z hH st) ∧ (jF9 Z hH st (.long (zs + ((sz + (t - f)) - sz)))) ∧ (jF1 Z hH st (.ref pa)) ∧ (jF0 Z hH st (.int (1 : Int32))) ∧ (jF10 Z hH st (.int pb)) ∧ (jE1 Z hH pg) ∧ (jF11 Z hH pg (.long (sz + (t - f)))) ∧ (jF2 Z hH pg (.long ff)) ∧ (jF4 Z hH pg (.long ft)) ∧ (jF12 Z hH pg (.ref ba)) ∧ (jF8 Z hH pg (.int (0 : Int32))) ∧ (jF7 Z hH pg (.int en)) ∧ (jF3 Z hH pg (.int (0 : Int32))) ∧ (jF13 Z hH pg (.long (f - ft))) ∧ (jF6 Z hH pg (.long f)) ∧ (jF5 Z hH pg (.long t)) ∧ (Arv Z hH ba kb .byte (28 : Int32) vs (.int (0 : Int32)))
set_option maxRecDepth 65536 in
set_option maxHeartbeats 40000000 in
theorem rm_atb (lL : Launch) (Z : State) (a0 : Array Value) (hw : own_H a0 Z) (ws : List Jvm.Cond) (st : Addr) (pa : Addr) (pg : Addr) (nb : Addr) (kq : ClassId) (kn : ClassId) (pb : Int32) (sz : Int64) (ff : Int64) (ft : Int64) (lg : Int64) (lf : Int64) (lt : Int64) (f : Int64) (t : Int64) (zs : Int64) (h0 : Heap) (n0 : Nat) (Z0 : n0 ≤ h0.size) (F0 : jE0 Z h0 st) (F1 : jF9 Z h0 st (.long zs)) (F2 : jF1 Z h0 st (.ref pa)) (F3 : jF0 Z h0 st (.int (1 : Int32))) (F4 : jF10 Z h0 st (.int pb)) (G0 : jE1 Z h0 pg) (G1 : jF11 Z h0 pg (.long sz)) (G2 : jF2 Z h0 pg (.long ff)) (G3 : jF4 Z h0 pg (.long ft)) (G4 : jF12 Z h0 pg (.ref nb)) (G5 : jF8 Z h0 pg (.int (0 : Int32))) (G6 : jF7 Z h0 pg (.int (0 : Int32))) (G7 : jF3 Z h0 pg (.int (-1 : Int32))) (G8 : jF13 Z h0 pg (.long lg)) (G9 : jF6 Z h0 pg (.long lf)) (G10 : jF5 Z h0 pg (.long lt)) (Vn : Arv Z h0 nb kn .byte (0 : Int32) [] (.int (0 : Int32))) (Vp : Arv Z h0 pa kq (.object "com/example/portion/portion/server/OffsetSet$Page") (2 : Int32) [(.ref pg), .null] .null) (hs : ¬ (sz = (0 : Int64))) (h1 : ft < f) (hg : 1 ≤ (f - ft).toInt ∧ (f - ft).toInt ≤ 16777216) (hn : 1 ≤ (t - f).toInt ∧ (t - f).toInt ≤ 4096) (hp : 1 ≤ pb.toInt) (g_st : n0 ≤ st) (g_pg : n0 ≤ pg) (ne_st_pa : st ≠ pa) (ne_st_pg : st ≠ pg) (ne_st_nb : st ≠ nb) (ne_pa_pg : pa ≠ pg) (ne_pa_nb : pa ≠ nb) (ne_pg_nb : pg ≠ nb) :
    own_Met lL jy16 (Jvm.Cond.code jy16 prog_38_method_20_code 9 none :: ws) jr16 #[(.ref st), (.int (0 : Int32)), (.long f), (.long t)] Z h0 (Q_rm_atb Z st pa pg nb kq kn pb sz ff ft lg lf lt f t zs h0 n0) := by
  refine own_begin (plainFor_of_name own_pn_com_example_portion_portion_server_OffsetSet) (fun mM => own_ef_rm_atb mM st (0 : Int32) f t) fun pP eE sS mM below meth cC s₁ hx hby hml hZ hown hnm hre hlk X0 e0 => ?_
  have hC := @Jvm.hb _ _ hby
  have N0 := Fr.nil n0
  have K0 := Keep.refl h0 [st, pg]
  let ll1 : Array Slot := #[vR st, vI 0, vJ f, vS, vJ t, vS, vU, vU, vU]
  refine jg s₁ mM 9 ll1 [(.ref st)] (fun tT kK => ?_) ?_
  · refine XS.iloadN X0.here hx rfl (hC e9_0.1) rfl ?_
    refine XS.ifYes X0.here hx rfl (pc0 := 1) (pc' := 8) rfl (hC e9_0.2.1) rfl ((if0 _ _).trans (flt ((by decide) : ¬ ((0 : Int32) < (0 : Int32)))).2.1) (by decide) (by decide) ?_
    refine XS.aloadN X0.here hx rfl (hC e9_8.1) rfl rfl ?_
    exact kK
  refine jf X0 hx hZ hown (jk hw 16 rfl) e0 F2 (hC e9_8.2.1) fun T1_ X1_ e1_ => ?_
  refine jg T1_ mM 13 ll1 [(.int (0 : Int32)), (.ref pa)] (fun tT kK => ?_) ?_
  · refine XS.iloadN X1_.here hx rfl (hC e9_8.2.2.1) rfl ?_
    exact kK
  obtain ⟨cl2_, Ar2_, qk2_, Sz2_, Nn2_, Hh2_, Gg2_⟩ := id Vp
  have hin3_ : ¬ ((0 : Int32) < 0 ∨ cl2_.slots.size ≤ ((0 : Int32)).toNatClampNeg) := inb_of Sz2_ ⟨by decide, by decide⟩
  have hat3_ : cl2_.slots[((0 : Int32)).toNatClampNeg]? = some (.ref pg) := Hh2_.at hin3_ rfl
  let ll2 : Array Slot := #[vR st, vI 0, vJ f, vS, vJ t, vS, vR pg, vU, vU]
  refine jg T1_ mM 23 ll2 [(.ref pg)] (fun tT kK => ?_) ?_
  · refine X1_.aaload hx (j := (0 : Int32)) (v := (.ref pg)) (own_rw e1_ Ar2_.1) (State.isArrayOf_alike hZ.alike Ar2_.2.1) rfl Ar2_.2.2 hin3_ hat3_ (g := (mkF mM 13 ll1 [(.int (0 : Int32)), (.ref pa)])) rfl rfl (hC e9_8.2.2.2) _ ?_
    refine XS.astore X1_.here hx rfl (hC e9_14.1) rfl rfl (l' := ll2) rfl ?_
    refine XS.aload X1_.here hx rfl (hC e9_14.2.1) rfl rfl ?_
    refine XS.ifnullNo X1_.here hx rfl (hC e9_14.2.2.1) rfl ?_
    refine XS.aload X1_.here hx rfl (hC e9_21.1) rfl rfl ?_
    exact kK
  refine jv X1_ hx hZ (y := jy5) hown (jk hw 100 rfl) (jk hw 101 rfl) (jk hw 103 rfl) (jk hw 102 rfl) (jk hw 104 rfl) (jk hw 55 rfl) (rm_bc lL Z a0 hw [] pg (0 : Int32) h0 n0 (Nat.le_trans Z0 K0.1) G6 G5) G0 e1_ own_pd10 [] [] (hC e9_21.2) rfl rfl (by rw [hml]; rfl) (by decide) 0 (Nat.le_of_eq rfl) (by decide) (by decide) (by decide : 0 + 0 ≤ _) (by decide : 0 + 0 ≤ _) fun vv4_ T4_ L4_ X4_ hQ4_ => ?_
  obtain ⟨rfl, N4_q, p4__0⟩ := hQ4_
  have N4_ := Fr.app N0 N4_q
  refine jg T4_ mM 27 ll2 [(.ref st), (.int ((0 : Int32) - (0 : Int32)))] (fun tT kK => ?_) ?_
  · refine XS.aloadN X4_.here hx rfl (hC e9_26.1) rfl rfl ?_
    exact kK
  refine jf X4_ hx hZ hown (jk hw 18 rfl) p4__0 F4 (hC e9_26.2.1) fun T5_ X5_ e5_ => ?_
  refine jg T5_ mM 84 ll2 [(.ref pg)] (fun tT kK => ?_) ?_
  · refine XS.icmpYes X5_.here hx rfl (pc0 := 30) (pc' := 82) rfl (hC e9_26.2.2) rfl (tlt (own_pb0 hp : ((0 : Int32) - (0 : Int32)) < pb)).1 (by decide) (by decide) ?_
    refine XS.aload X5_.here hx rfl (hC e9_82.1) rfl rfl ?_
    exact kK
  obtain ⟨T6_, X6_, e6_, st6_⟩ := own_getRef X5_ hx hZ hown (jk hw 76 rfl) Via.refl e5_ G1 (g := (mkF mM 84 ll2 [(.ref pg)])) rfl rfl (hC e9_82.2.1)
  refine own_fin st6_ ?_
  let ll3 : Array Slot := #[vR st, vI 0, vJ f, vS, vJ t, vS, vR pg, vJ sz, vS]
  refine jg T6_ mM 94 ll3 [(.long t), (.long f), (.ref pg)] (fun tT kK => ?_) ?_
  · refine XS.lstore X6_.here hx rfl (hC e9_82.2.2.1) rfl (l' := ll3) rfl ?_
    refine XS.aload X6_.here hx rfl (hC e9_82.2.2.2) rfl rfl ?_
    refine XS.lloadN X6_.here hx rfl (hC e9_91.1) rfl ?_
    refine XS.lload X6_.here hx rfl (hC e9_91.2.1) rfl ?_
    exact kK
  refine jv X6_ hx hZ (y := jy14) hown (jk hw 78 rfl) (jk hw 79 rfl) (jk hw 81 rfl) (jk hw 80 rfl) (jk hw 82 rfl) (jk hw 55 rfl) (rm_exb lL Z a0 hw [] pg nb kn sz ff ft lg lf lt f t h0 n0 (Nat.le_trans Z0 K0.1) G0 G1 G2 G3 G4 G5 G6 G7 G8 G9 G10 Vn hs h1 hg hn g_pg ne_pg_nb) G0 e6_ own_pd7 [(.long f), (.long t)] [] (hC e9_91.2.2) rfl rfl (by rw [hml]; rfl) (by decide) 0 (Nat.le_of_eq rfl) (by decide) (by decide) (by decide : 0 + 1 ≤ _) (by decide : 0 + 28 ≤ _) fun vv7_ T7_ L7_ X7_ hQ7_ => ?_
  obtain ⟨ba_7_, kb_7_, en_7_, vs_7_, rfl, N7_q, p7__0, p7__1, p7__2, p7__3, p7__4, p7__5, p7__6, p7__7, p7__8, p7__9, p7__10, p7__11, p7__12, p7__13, p7__14, p7__15⟩ := hQ7_
  have N7_ := Fr.app N4_ N7_q
  have sz_ba_7_ : h0.size ≤ ba_7_ := Nat.le_trans K0.1 p7__1
  have ne8_ : st ≠ ba_7_ := Nat.ne_of_lt (Nat.lt_of_lt_of_le F0.lt p7__1)
  have fc12_ := F0.keep p7__0
  have fc13_ := F1.keep p7__0 (ninS ne_st_pg nin0)
  have fc14_ := F2.keep p7__0 (ninS ne_st_pg nin0)
  have fc15_ := F3.keep p7__0 (ninS ne_st_pg nin0)
  have fc16_ := F4.keep p7__0 (ninS ne_st_pg nin0)
  have K7_ := K0.trans p7__0 (allS (Or.inl (List.mem_of_getElem? (i := 1) rfl)) all0)
  refine jg T7_ mM 99 ll3 [(.ref st), (.ref st)] (fun tT kK => ?_) ?_
  · refine XS.aloadN X7_.here hx rfl (hC e9_97.1) rfl rfl ?_
    refine XS.dup X7_.here hx rfl (hC e9_97.2.1) rfl rfl ?_
    exact kK
  refine jf X7_ hx hZ hown (jk hw 43 rfl) rfl fc13_ (hC e9_97.2.2.1) fun T20_ X20_ e20_ => ?_
  refine jg T20_ mM 104 ll3 [(.ref pg), (.long zs), (.ref st)] (fun tT kK => ?_) ?_
  · refine XS.aload X20_.here hx rfl (hC e9_97.2.2.2) rfl rfl ?_
    exact kK
  obtain ⟨T21_, X21_, e21_, st21_⟩ := own_getRef X20_ hx hZ hown (jk hw 76 rfl) Via.refl e20_ p7__5 (g := (mkF mM 104 ll3 [(.ref pg), (.long zs), (.ref st)])) rfl rfl (hC e9_104.1)
  refine own_fin st21_ ?_
  refine jg T21_ mM 111 ll3 [(.long (zs + ((sz + (t - f)) - sz))), (.ref st)] (fun tT kK => ?_) ?_
  · refine XS.lload X21_.here hx rfl (hC e9_104.2.1) rfl ?_
    refine XS.lsub X21_.here hx rfl (hC e9_104.2.2.1) rfl ?_
    refine XS.ladd X21_.here hx rfl (hC e9_104.2.2.2) rfl ?_
    exact kK
  refine jq X21_ hx hZ hown (jk hw 43 rfl) e21_ fc13_ fc12_ (jk hw 44 rfl) (jk hw 6 rfl) (ty := .long) (by decide) rfl rfl (hC e9_111.1) K7_ N7_ (Or.inl (List.mem_of_getElem? (i := 0) rfl)) g_st fun T22_ h22_ X22_ e22_ W22_ Fw22_ K22_ N22_ => ?_
  have fc23_ := fc12_.wr W22_
  have fc24_ := fc14_.other W22_ (Or.inr (js0 hw).symm)
  have fc25_ := fc15_.other W22_ (Or.inr (js22 hw).symm)
  have fc26_ := fc16_.other W22_ (Or.inr (js3 hw).symm)
  have fc27_ := p7__4.wr W22_
  have fc30_ := p7__5.other W22_ (Or.inl (Ne.symm ne_st_pg))
  have fc31_ := p7__6.other W22_ (Or.inl (Ne.symm ne_st_pg))
  have fc32_ := p7__7.other W22_ (Or.inl (Ne.symm ne_st_pg))
  have fc33_ := p7__8.other W22_ (Or.inl (Ne.symm ne_st_pg))
  have fc34_ := p7__9.other W22_ (Or.inl (Ne.symm ne_st_pg))
  have fc35_ := p7__10.other W22_ (Or.inl (Ne.symm ne_st_pg))
  have fc36_ := p7__11.other W22_ (Or.inl (Ne.symm ne_st_pg))
  have fc37_ := p7__12.other W22_ (Or.inl (Ne.symm ne_st_pg))
  have fc38_ := p7__13.other W22_ (Or.inl (Ne.symm ne_st_pg))
  have fc39_ := p7__14.other W22_ (Or.inl (Ne.symm ne_st_pg))
  have fc40_ := p7__15.other W22_ (Ne.symm ne8_)
  exact own_rV X22_ hx hlk hre (hC e9_111.2) e22_ (by decide) (by decide) ⟨ba_7_, kb_7_, en_7_, vs_7_, rfl, N22_, K22_, sz_ba_7_, p7__2, p7__3, fc23_, Fw22_, fc24_, fc25_, fc26_, fc27_, fc30_, fc31_, fc32_, fc33_, fc34_, fc35_, fc36_, fc37_, fc38_, fc39_, fc40_⟩
theorem e4_45 : jD18 45 (.iload 5, 2) ∧ jD18 47 (.iload 6, 2) ∧ jD18 49 (.if_icmp .ne 29, 3) ∧ jD18 52 (.lload_n 1, 1) := by decide +kernel
theorem e4_53 : jD18 53 (.aload_n 0, 1) ∧ jD18 54 (.getfield 16, 3) ∧ jD18 57 (.iload 5, 2) ∧ jD18 59 (.aaload, 1) := by decide +kernel
theorem e4_60 : jD18 60 (.invokevirtual 75, 3) ∧ jD18 63 (.lcmp, 1) ∧ jD18 64 (.ifCond .lt 14, 3) ∧ jD18 67 (.aload_n 0, 1) := by decide +kernel
theorem e4_68 : jD18 68 (.iload 5, 2) ∧ jD18 70 (.lload_n 1, 1) ∧ jD18 71 (.lload_n 3, 1) ∧ jD18 72 (.invokevirtual 78, 3) := by decide +kernel
theorem d4_75 : jD18 75 (.goto 48, 3) := by decide +kernel
theorem own_ef_rm_ar1 (mM : MethodId) (x0 : Addr) (x1 : Int64) (x2 : Int64) : entryFrame mM #[(.ref x0), (.long x1), (.long x2)] 8 = mkF mM 0 #[.val (.ref x0), .val (.long x1), .second, .val (.long x2), .second, .unset, .unset, .unset] [] := by first | (simp [entryFrame, mkF, argsToLocals, Value.category]; done) | rfl
def Q_rm_ar1 (Z : State) (st : Addr) (pa : Addr) (pg : Addr) (nb : Addr) (kq : ClassId) (kn : ClassId) (pb : Int32) (sz : Int64) (ff : Int64) (ft : Int64) (lg : Int64) (lf : Int64) (lt : Int64) (f : Int64) (t : Int64) (zs : Int64) (h0 : Heap) (n0 : Nat) (vV : Option Value) (hH : Heap) (lA : List Loc) : Prop := ∃ ba : Addr, ∃ kb : ClassId, ∃ en : Int32, ∃ vs : List Value, vV = none ∧ Fr n0 lA ∧ (Keep h0 hH [st, pg]) ∧ (h0.size ≤ ba) ∧ (vs.length = 28) ∧ (1 ≤ en.toInt ∧ en.toInt ≤ 7) ∧ (jE0 Z hH st) ∧ (jF9 Z hH st (.long (zs + ((sz + (t - f)) - sz)))) ∧ (jF1 Z hH st (.ref pa)) ∧ (jF0 Z hH st (.int (1 : Int32))) ∧ (jF10 Z hH st (.int pb)) ∧ (jE1 Z hH pg) ∧ (jF11 Z hH pg (.long (sz + (t - f)))) ∧ (jF2 Z hH pg (.long ff)) ∧ (jF4 Z hH pg (.long ft)) ∧ (jF12 Z hH pg (.ref ba)) ∧ (jF8 Z hH pg (.int (0 : Int32))) ∧ (jF7 Z hH pg (.int en)) ∧ (jF3 Z hH pg (.int (0 : Int32))) ∧ (jF13 Z hH pg (.long (f - ft))) ∧ (jF6 Z hH pg (.long f)) ∧ (jF5 Z hH pg (.long t)) ∧ (Arv Z hH ba kb .byte (28 : Int32) vs (.int (0 : Int32)))
set_option maxRecDepth 65536 in
set_option maxHeartbeats 40000000 in
theorem rm_ar1 (lL : Launch) (Z : State) (a0 : Array Value) (hw : own_H a0 Z) (ws : List Jvm.Cond) (st : Addr) (pa : Addr) (pg : Addr) (nb : Addr) (kq : ClassId) (kn : ClassId) (pb : Int32) (sz : Int64) (ff : Int64) (ft : Int64) (lg : Int64) (lf : Int64) (lt : Int64) (f : Int64) (t : Int64) (zs : Int64) (h0 : Heap) (n0 : Nat) (Z0 : n0 ≤ h0.size) (F0 : jE0 Z h0 st) (F1 : jF9 Z h0 st (.long zs)) (F2 : jF1 Z h0 st (.ref pa)) (F3 : jF0 Z h0 st (.int (1 : Int32))) (F4 : jF10 Z h0 st (.int pb)) (G0 : jE1 Z h0 pg) (G1 : jF11 Z h0 pg (.long sz)) (G2 : jF2 Z h0 pg (.long ff)) (G3 : jF4 Z h0 pg (.long ft)) (G4 : jF12 Z h0 pg (.ref nb)) (G5 : jF8 Z h0 pg (.int (0 : Int32))) (G6 : jF7 Z h0 pg (.int (0 : Int32))) (G7 : jF3 Z h0 pg (.int (-1 : Int32))) (G8 : jF13 Z h0 pg (.long lg)) (G9 : jF6 Z h0 pg (.long lf)) (G10 : jF5 Z h0 pg (.long lt)) (Vn : Arv Z h0 nb kn .byte (0 : Int32) [] (.int (0 : Int32))) (Vp : Arv Z h0 pa kq (.object "com/example/portion/portion/server/OffsetSet$Page") (2 : Int32) [(.ref pg), .null] .null) (hs : ¬ (sz = (0 : Int64))) (h1 : ft < f) (hg : 1 ≤ (f - ft).toInt ∧ (f - ft).toInt ≤ 16777216) (hn : 1 ≤ (t - f).toInt ∧ (t - f).toInt ≤ 4096) (hp : 1 ≤ pb.toInt) (g_st : n0 ≤ st) (g_pg : n0 ≤ pg) (ne_st_pa : st ≠ pa) (ne_st_pg : st ≠ pg) (ne_st_nb : st ≠ nb) (ne_pa_pg : pa ≠ pg) (ne_pa_nb : pa ≠ nb) (ne_pg_nb : pg ≠ nb) (c1 : ¬ (f < (0 : Int64))) (c2 : f < t) (c3 : ¬ (f < ff)) (c4 : ¬ (t < ff)) (hz : ¬ (zs = (0 : Int64))) :
    own_Met lL jy18 (Jvm.Cond.code jy18 prog_38_method_9_code 8 none :: ws) jr17 #[(.ref st), (.long f), (.long t)] Z h0 (Q_rm_ar1 Z st pa pg nb kq kn pb sz ff ft lg lf lt f t zs h0 n0) := by
  refine own_begin (plainFor_of_name own_pn_com_example_portion_portion_server_OffsetSet) (fun mM => own_ef_rm_ar1 mM st f t) fun pP eE sS mM below meth cC s₁ hx hby hml hZ hown hnm hre hlk X0 e0 => ?_
  have hC := @Jvm.hb _ _ hby
  have N0 := Fr.nil n0
  have K0 := Keep.refl h0 [st, pg]
  let ll1 : Array Slot := #[vR st, vJ f, vS, vJ t, vS, vU, vU, vU]
  refine jg s₁ mM 2 ll1 [(.long t), (.long f)] (fun tT kK => ?_) ?_
  · refine XS.lloadN X0.here hx rfl (hC e4_0.1) rfl ?_
    refine XS.lloadN X0.here hx rfl (hC e4_0.2.1) rfl ?_
    exact kK
  refine jc X0 hx hZ (y := jy0) hown (jk hw 30 rfl) (jk hw 31 rfl) (jk hw 7 rfl) (jk hw 32 rfl) (rm_req lL Z a0 hw [] f t h0 n0 (Nat.le_trans Z0 K0.1) c1 c2) e0 own_pd7 [(.long f), (.long t)] [] (hC e4_0.2.2.1) rfl rfl (by rw [hml]; rfl) (by decide) 0 (Nat.le_of_eq rfl) (by decide) (by decide) (by decide : 0 + 0 ≤ _) (by decide : 0 + 0 ≤ _) fun vv1_ T1_ L1_ X1_ hQ1_ => ?_
  obtain ⟨rfl, N1_q, p1__0⟩ := hQ1_
  have N1_ := Fr.app N0 N1_q
  refine jg T1_ mM 8 ll1 [(.long f), (.ref st), (.int (0 : Int32))] (fun tT kK => ?_) ?_
  · refine XS.iconst X1_.here hx rfl (hC e4_0.2.2.2) ?_
    refine XS.aloadN X1_.here hx rfl (hC e4_6.1) rfl rfl ?_
    refine XS.lloadN X1_.here hx rfl (hC e4_6.2.1) rfl ?_
    exact kK
  refine jw X1_ hx hZ (y := jy2) hown (jk hw 33 rfl) (jk hw 34 rfl) (own_selP (y := jy2) hZ (jk hw 6 rfl) (jk hw 35 rfl) (jk hw 34 rfl) (by decide)) (jk hw 35 rfl) (jk hw 36 rfl) (jk hw 7 rfl) (rm_pay lL Z a0 hw [] st pa pg kq f ff h0 n0 (Nat.le_trans Z0 K0.1) F3 F2 Vp G2 c3) F0 p1__0 own_pd9 [(.long f)] [(.int (0 : Int32))] (hC e4_6.2.2) rfl rfl (by rw [hml]; rfl) (by decide) 1 (Nat.le_of_eq rfl) (by decide) (by decide) (by decide : 0 + 0 ≤ _) (by decide : 0 + 0 ≤ _) fun vv2_ T2_ L2_ X2_ hQ2_ => ?_
  obtain ⟨rfl, N2_q, p2__0⟩ := hQ2_
  have N2_ := Fr.app N1_ N2_q
  refine jc X2_ hx hZ (y := jy1) hown (jk hw 39 rfl) (jk hw 40 rfl) (jk hw 41 rfl) (jk hw 42 rfl) (rm_mxb lL Z a0 hw []  h0 n0 (Nat.le_trans Z0 K0.1) ) p2__0 own_pd1 [(.int (0 : Int32)), (.int (0 : Int32))] [] (hC e4_11.1) rfl rfl (by rw [hml]; rfl) (by decide) 0 (Nat.le_of_eq rfl) (by decide) (by decide) (by decide : 0 + 0 ≤ _) (by decide : 0 + 0 ≤ _) fun vv3_ T3_ L3_ X3_ hQ3_ => ?_
  obtain ⟨rfl, N3_q, p3__0⟩ := hQ3_
  have N3_ := Fr.app N2_ N3_q
  let ll2 : Array Slot := #[vR st, vJ f, vS, vJ t, vS, vI 0, vU, vU]
  refine jg T3_ mM 19 ll2 [(.long t), (.ref st), (.int (0 : Int32))] (fun tT kK => ?_) ?_
  · refine XS.istore X3_.here hx rfl (hC e4_11.2.1) rfl (l' := ll2) rfl ?_
    refine XS.iconst X3_.here hx rfl (hC e4_11.2.2.1) ?_
    refine XS.aloadN X3_.here hx rfl (hC e4_11.2.2.2) rfl rfl ?_
    refine XS.lloadN X3_.here hx rfl (hC e4_18.1) rfl ?_
    exact kK
  refine jw X3_ hx hZ (y := jy2) hown (jk hw 33 rfl) (jk hw 34 rfl) (own_selP (y := jy2) hZ (jk hw 6 rfl) (jk hw 35 rfl) (jk hw 34 rfl) (by decide)) (jk hw 35 rfl) (jk hw 36 rfl) (jk hw 7 rfl) (rm_pay lL Z a0 hw [] st pa pg kq t ff h0 n0 (Nat.le_trans Z0 K0.1) F3 F2 Vp G2 c4) F0 p3__0 own_pd9 [(.long t)] [(.int (0 : Int32))] (hC e4_18.2.1) rfl rfl (by rw [hml]; rfl) (by decide) 1 (Nat.le_of_eq rfl) (by decide) (by decide) (by decide : 0 + 0 ≤ _) (by decide : 0 + 0 ≤ _) fun vv4_ T4_ L4_ X4_ hQ4_ => ?_
  obtain ⟨rfl, N4_q, p4__0⟩ := hQ4_
  have N4_ := Fr.app N3_ N4_q
  refine jc X4_ hx hZ (y := jy1) hown (jk hw 39 rfl) (jk hw 40 rfl) (jk hw 41 rfl) (jk hw 42 rfl) (rm_mxb lL Z a0 hw []  h0 n0 (Nat.le_trans Z0 K0.1) ) p4__0 own_pd1 [(.int (0 : Int32)), (.int (0 : Int32))] [] (hC e4_18.2.2.1) rfl rfl (by rw [hml]; rfl) (by decide) 0 (Nat.le_of_eq rfl) (by decide) (by decide) (by decide : 0 + 0 ≤ _) (by decide : 0 + 0 ≤ _) fun vv5_ T5_ L5_ X5_ hQ5_ => ?_
  obtain ⟨rfl, N5_q, p5__0⟩ := hQ5_
  have N5_ := Fr.app N4_ N5_q
  let ll3 : Array Slot := #[vR st, vJ f, vS, vJ t, vS, vI 0, vI 0, vU]
  refine jg T5_ mM 28 ll3 [(.ref st)] (fun tT kK => ?_) ?_
  · refine XS.istore X5_.here hx rfl (hC e4_18.2.2.2) rfl (l' := ll3) rfl ?_
    refine XS.aloadN X5_.here hx rfl (hC e4_27.1) rfl rfl ?_
    exact kK
  refine jf X5_ hx hZ hown (jk hw 43 rfl) p5__0 F1 (hC e4_27.2.1) fun T6_ X6_ e6_ => ?_
  refine jg T6_ mM 54 ll3 [(.ref st), (.long f)] (fun tT kK => ?_) ?_
  · refine XS.lconst X6_.here hx rfl (hC e4_27.2.2.1) ?_
    refine XS.lcmp X6_.here hx rfl (hC e4_27.2.2.2) rfl ?_
    refine XS.ifYes X6_.here hx rfl (pc0 := 33) (pc' := 45) rfl (hC e4_33.1) rfl ((if0 _ _).trans (feq (mt (lw_eq zs (0 : Int64)).mp (hz : ¬ (zs = (0 : Int64))))).2) (by decide) (by decide) ?_
    refine XS.iload X6_.here hx rfl (hC e4_45.1) rfl ?_
    refine XS.iload X6_.here hx rfl (hC e4_45.2.1) rfl ?_
    refine XS.icmpNo X6_.here hx rfl (hC e4_45.2.2.1) rfl (teq ((by decide) : (0 : Int32) = (0 : Int32))).2 ?_
    refine XS.lloadN X6_.here hx rfl (hC e4_45.2.2.2) rfl ?_
    refine XS.aloadN X6_.here hx rfl (hC e4_53.1) rfl rfl ?_
    exact kK
  refine jf X6_ hx hZ hown (jk hw 16 rfl) e6_ F2 (hC e4_53.2.1) fun T7_ X7_ e7_ => ?_
  refine jg T7_ mM 59 ll3 [(.int (0 : Int32)), (.ref pa), (.long f)] (fun tT kK => ?_) ?_
  · refine XS.iload X7_.here hx rfl (hC e4_53.2.2.1) rfl ?_
    exact kK
  obtain ⟨cl8_, Ar8_, qk8_, Sz8_, Nn8_, Hh8_, Gg8_⟩ := id Vp
  have hin9_ : ¬ ((0 : Int32) < 0 ∨ cl8_.slots.size ≤ ((0 : Int32)).toNatClampNeg) := inb_of Sz8_ ⟨by decide, by decide⟩
  have hat9_ : cl8_.slots[((0 : Int32)).toNatClampNeg]? = some (.ref pg) := Hh8_.at hin9_ rfl
  refine jg T7_ mM 60 ll3 [(.ref pg), (.long f)] (fun tT kK => ?_) ?_
  · refine X7_.aaload hx (j := (0 : Int32)) (v := (.ref pg)) (own_rw e7_ Ar8_.1) (State.isArrayOf_alike hZ.alike Ar8_.2.1) rfl Ar8_.2.2 hin9_ hat9_ (g := (mkF mM 59 ll3 [(.int (0 : Int32)), (.ref pa), (.long f)])) rfl rfl (hC e4_53.2.2.2) _ ?_
    exact kK
  refine jv X7_ hx hZ (y := jy4) hown (jk hw 95 rfl) (jk hw 96 rfl) (jk hw 98 rfl) (jk hw 97 rfl) (jk hw 99 rfl) (jk hw 55 rfl) (rm_lfa lL Z a0 hw [] pg ff h0 n0 (Nat.le_trans Z0 K0.1) G7 G2) G0 e7_ own_pd4 [] [(.long f)] (hC e4_60.1) rfl rfl (by rw [hml]; rfl) (by decide) 2 (Nat.le_of_eq rfl) (by decide) (by decide) (by decide : 0 + 0 ≤ _) (by decide : 0 + 0 ≤ _) fun vv10_ T10_ L10_ X10_ hQ10_ => ?_
  obtain ⟨rfl, N10_q, p10__0⟩ := hQ10_
  have N10_ := Fr.app N5_ N10_q
  refine jg T10_ mM 72 ll3 [(.long t), (.long f), (.int (0 : Int32)), (.ref st)] (fun tT kK => ?_) ?_
  · refine XS.lcmp X10_.here hx rfl (hC e4_60.2.1) rfl ?_
    refine XS.ifNo X10_.here hx rfl (hC e4_60.2.2.1) rfl ((if0 _ _).trans (flt (mt (lw_lt f ff).mp (c3 : ¬ (f < ff)))).1) ?_
    refine XS.aloadN X10_.here hx rfl (hC e4_60.2.2.2) rfl rfl ?_
    refine XS.iload X10_.here hx rfl (hC e4_68.1) rfl ?_
    refine XS.lloadN X10_.here hx rfl (hC e4_68.2.1) rfl ?_
    refine XS.lloadN X10_.here hx rfl (hC e4_68.2.2.1) rfl ?_
    exact kK
  refine jw X10_ hx hZ (y := jy16) hown (jk hw 49 rfl) (jk hw 50 rfl) (own_selP (y := jy16) hZ (jk hw 6 rfl) (jk hw 51 rfl) (jk hw 50 rfl) (by decide)) (jk hw 51 rfl) (jk hw 52 rfl) (jk hw 7 rfl) (rm_atb lL Z a0 hw [] st pa pg nb kq kn pb sz ff ft lg lf lt f t zs h0 n0 (Nat.le_trans Z0 K0.1) F0 F1 F2 F3 F4 G0 G1 G2 G3 G4 G5 G6 G7 G8 G9 G10 Vn Vp hs h1 hg hn hp g_st g_pg ne_st_pa ne_st_pg ne_st_nb ne_pa_pg ne_pa_nb ne_pg_nb) F0 p10__0 own_pd8 [(.int (0 : Int32)), (.long f), (.long t)] [] (hC e4_68.2.2.2) rfl rfl (by rw [hml]; rfl) (by decide) 0 (Nat.le_of_eq rfl) (by decide) (by decide) (by decide : 0 + 1 ≤ _) (by decide : 0 + 28 ≤ _) fun vv11_ T11_ L11_ X11_ hQ11_ => ?_
  obtain ⟨ba_11_, kb_11_, en_11_, vs_11_, rfl, N11_q, p11__0, p11__1, p11__2, p11__3, p11__4, p11__5, p11__6, p11__7, p11__8, p11__9, p11__10, p11__11, p11__12, p11__13, p11__14, p11__15, p11__16, p11__17, p11__18, p11__19, p11__20⟩ := hQ11_
  have N11_ := Fr.app N10_ N11_q
  have sz_ba_11_ : h0.size ≤ ba_11_ := Nat.le_trans K0.1 p11__1
  have K11_ := K0.trans p11__0 (allS (Or.inl (List.mem_of_getElem? (i := 0) rfl)) (allS (Or.inl (List.mem_of_getElem? (i := 1) rfl)) all0))
  refine jg T11_ mM 123 ll3 [] (fun tT kK => ?_) ?_
  · refine XS.goto X11_.here hx rfl (pc0 := 75) (pc' := 123) rfl (hC d4_75) (by decide) (by decide) ?_
    exact kK
  exact own_rV X11_ hx hlk hre (hC e4_39.2.2) rfl (by decide) (by decide) ⟨ba_11_, kb_11_, en_11_, vs_11_, rfl, N11_, K11_, sz_ba_11_, p11__2, p11__3, p11__4, p11__5, p11__6, p11__7, p11__8, p11__9, p11__10, p11__11, p11__12, p11__13, p11__14, p11__15, p11__16, p11__17, p11__18, p11__19, p11__20⟩
theorem e9_33 : jD16 33 (.lload_n 2, 1) ∧ jD16 34 (.aload 6, 2) ∧ jD16 36 (.invokevirtual 103, 3) ∧ jD16 39 (.lcmp, 1) := by decide +kernel
theorem e9_40 : jD16 40 (.ifCond .le 42, 3) ∧ jD16 48 (.aload 6, 2) ∧ jD16 50 (.invokevirtual 149, 3) := by decide +kernel
theorem own_ef_rm_atc (mM : MethodId) (x0 : Addr) (x1 : Int32) (x2 : Int64) (x3 : Int64) : entryFrame mM #[(.ref x0), (.int x1), (.long x2), (.long x3)] 9 = mkF mM 0 #[.val (.ref x0), .val (.int x1), .val (.long x2), .second, .val (.long x3), .second, .unset, .unset, .unset] [] := by first | (simp [entryFrame, mkF, argsToLocals, Value.category]; done) | rfl
def Q_rm_atc (Z : State) (st : Addr) (pa : Addr) (pg : Addr) (ba : Addr) (nb : Addr) (kq : ClassId) (kb : ClassId) (pb : Int32) (en : Int32) (sz : Int64) (ff : Int64) (ft : Int64) (lg : Int64) (lf : Int64) (lt : Int64) (f : Int64) (t : Int64) (zs : Int64) (vs : List Value) (h0 : Heap) (n0 : Nat) (vV : Option Value) (hH : Heap) (lA : List Loc) : Prop := ∃ z' : Int64, ∃ c' : Int32, vV = none ∧ Fr n0 lA ∧ (Keep h0 hH [st, pg, ba, pa]) ∧ (jE0 Z hH st) ∧ (jF9 Z hH st (.long z')) ∧ (jF1 Z hH st (.ref pa)) ∧ (jF0 Z hH st (.int c')) ∧ (jF10 Z hH st (.int pb))
set_option maxRecDepth 65536 in
set_option maxHeartbeats 40000000 in
theorem rm_atc (lL : Launch) (Z : State) (a0 : Array Value) (hw : own_H a0 Z) (ws : List Jvm.Cond) (st : Addr) (pa : Addr) (pg : Addr) (ba : Addr) (nb : Addr) (kq : ClassId) (kb : ClassId) (pb : Int32) (en : Int32) (sz : Int64) (ff : Int64) (ft : Int64) (lg : Int64) (lf : Int64) (lt : Int64) (f : Int64) (t : Int64) (zs : Int64) (vs : List Value) (h0 : Heap) (n0 : Nat) (Z0 : n0 ≤ h0.size) (F0 : jE0 Z h0 st) (F1 : jF9 Z h0 st (.long zs)) (F2 : jF1 Z h0 st (.ref pa)) (F3 : jF0 Z h0 st (.int (1 : Int32))) (F4 : jF10 Z h0 st (.int pb)) (G0 : jE1 Z h0 pg) (G1 : jF11 Z h0 pg (.long sz)) (G2 : jF2 Z h0 pg (.long ff)) (G3 : jF4 Z h0 pg (.long ft)) (G4 : jF12 Z h0 pg (.ref ba)) (G5 : jF8 Z h0 pg (.int (0 : Int32))) (G6 : jF7 Z h0 pg (.int en)) (G7 : jF3 Z h0 pg (.int (0 : Int32))) (G8 : jF13 Z h0 pg (.long lg)) (G9 : jF6 Z h0 pg (.long lf)) (G10 : jF5 Z h0 pg (.long lt)) (Vb : Arv Z h0 ba kb .byte (28 : Int32) vs (.int (0 : Int32))) (hl : vs.length = 28) (he : 1 ≤ en.toInt ∧ en.toInt ≤ 7) (Vp : Arv Z h0 pa kq (.object "com/example/portion/portion/server/OffsetSet$Page") (2 : Int32) [(.ref pg), .null] .null) (Oq : Ovr Z kq "com/example/portion/portion/server/OffsetSet$Page") (Zb : Sta Z Z.heap "com/example/portion/portion/server/OffsetSet" "NO_BYTES" "[B" (.ref nb)) (O0 : Old Z n0 h0) (hs : ¬ (sz = (0 : Int64))) (h1 : lt < f) (hg : 1 ≤ (f - lt).toInt ∧ (f - lt).toInt ≤ 16777216) (hn : 1 ≤ (t - f).toInt ∧ (t - f).toInt ≤ 4096) (g_st : n0 ≤ st) (g_pa : n0 ≤ pa) (g_pg : n0 ≤ pg) (g_ba : n0 ≤ ba) (ne_st_pa : st ≠ pa) (ne_st_pg : st ≠ pg) (ne_st_ba : st ≠ ba) (ne_pa_pg : pa ≠ pg) (ne_pa_ba : pa ≠ ba) (ne_pg_ba : pg ≠ ba) :
    own_Met lL jy16 (Jvm.Cond.code jy16 prog_38_method_20_code 9 none :: ws) jr18 #[(.ref st), (.int (0 : Int32)), (.long f), (.long t)] Z h0 (Q_rm_atc Z st pa pg ba nb kq kb pb en sz ff ft lg lf lt f t zs vs h0 n0) := by
  refine own_begin (plainFor_of_name own_pn_com_example_portion_portion_server_OffsetSet) (fun mM => own_ef_rm_atc mM st (0 : Int32) f t) fun pP eE sS mM below meth cC s₁ hx hby hml hZ hown hnm hre hlk X0 e0 => ?_
  have hC := @Jvm.hb _ _ hby
  have N0 := Fr.nil n0
  have K0 := Keep.refl h0 [st, pg, ba, pa]
  let ll1 : Array Slot := #[vR st, vI 0, vJ f, vS, vJ t, vS, vU, vU, vU]
  refine jg s₁ mM 9 ll1 [(.ref st)] (fun tT kK => ?_) ?_
  · refine XS.iloadN X0.here hx rfl (hC e9_0.1) rfl ?_
    refine XS.ifYes X0.here hx rfl (pc0 := 1) (pc' := 8) rfl (hC e9_0.2.1) rfl ((if0 _ _).trans (flt ((by decide) : ¬ ((0 : Int32) < (0 : Int32)))).2.1) (by decide) (by decide) ?_
    refine XS.aloadN X0.here hx rfl (hC e9_8.1) rfl rfl ?_
    exact kK
  refine jf X0 hx hZ hown (jk hw 16 rfl) e0 F2 (hC e9_8.2.1) fun T1_ X1_ e1_ => ?_
  refine jg T1_ mM 13 ll1 [(.int (0 : Int32)), (.ref pa)] (fun tT kK => ?_) ?_
  · refine XS.iloadN X1_.here hx rfl (hC e9_8.2.2.1) rfl ?_
    exact kK
  obtain ⟨cl2_, Ar2_, qk2_, Sz2_, Nn2_, Hh2_, Gg2_⟩ := id Vp
  have hin3_ : ¬ ((0 : Int32) < 0 ∨ cl2_.slots.size ≤ ((0 : Int32)).toNatClampNeg) := inb_of Sz2_ ⟨by decide, by decide⟩
  have hat3_ : cl2_.slots[((0 : Int32)).toNatClampNeg]? = some (.ref pg) := Hh2_.at hin3_ rfl
  let ll2 : Array Slot := #[vR st, vI 0, vJ f, vS, vJ t, vS, vR pg, vU, vU]
  refine jg T1_ mM 23 ll2 [(.ref pg)] (fun tT kK => ?_) ?_
  · refine X1_.aaload hx (j := (0 : Int32)) (v := (.ref pg)) (own_rw e1_ Ar2_.1) (State.isArrayOf_alike hZ.alike Ar2_.2.1) rfl Ar2_.2.2 hin3_ hat3_ (g := (mkF mM 13 ll1 [(.int (0 : Int32)), (.ref pa)])) rfl rfl (hC e9_8.2.2.2) _ ?_
    refine XS.astore X1_.here hx rfl (hC e9_14.1) rfl rfl (l' := ll2) rfl ?_
    refine XS.aload X1_.here hx rfl (hC e9_14.2.1) rfl rfl ?_
    refine XS.ifnullNo X1_.here hx rfl (hC e9_14.2.2.1) rfl ?_
    refine XS.aload X1_.here hx rfl (hC e9_21.1) rfl rfl ?_
    exact kK
  refine jv X1_ hx hZ (y := jy5) hown (jk hw 100 rfl) (jk hw 101 rfl) (jk hw 103 rfl) (jk hw 102 rfl) (jk hw 104 rfl) (jk hw 55 rfl) (rm_bc lL Z a0 hw [] pg en h0 n0 (Nat.le_trans Z0 K0.1) G6 G5) G0 e1_ own_pd10 [] [] (hC e9_21.2) rfl rfl (by rw [hml]; rfl) (by decide) 0 (Nat.le_of_eq rfl) (by decide) (by decide) (by decide : 0 + 0 ≤ _) (by decide : 0 + 0 ≤ _) fun vv4_ T4_ L4_ X4_ hQ4_ => ?_
  obtain ⟨rfl, N4_q, p4__0⟩ := hQ4_
  have N4_ := Fr.app N0 N4_q
  refine jg T4_ mM 27 ll2 [(.ref st), (.int (en - (0 : Int32)))] (fun tT kK => ?_) ?_
  · refine XS.aloadN X4_.here hx rfl (hC e9_26.1) rfl rfl ?_
    exact kK
  refine jf X4_ hx hZ hown (jk hw 18 rfl) p4__0 F4 (hC e9_26.2.1) fun T5_ X5_ e5_ => ?_
  by_cases hc30_6_ : (en - (0 : Int32)) < pb
  · refine jg T5_ mM 84 ll2 [(.ref pg)] (fun tT kK => ?_) ?_
    · refine XS.icmpYes X5_.here hx rfl (pc0 := 30) (pc' := 82) rfl (hC e9_26.2.2) rfl (tlt (hc30_6_ : (en - (0 : Int32)) < pb)).1 (by decide) (by decide) ?_
      refine XS.aload X5_.here hx rfl (hC e9_82.1) rfl rfl ?_
      exact kK
    obtain ⟨T7_, X7_, e7_, st7_⟩ := own_getRef X5_ hx hZ hown (jk hw 76 rfl) Via.refl e5_ G1 (g := (mkF mM 84 ll2 [(.ref pg)])) rfl rfl (hC e9_82.2.1)
    refine own_fin st7_ ?_
    let ll3 : Array Slot := #[vR st, vI 0, vJ f, vS, vJ t, vS, vR pg, vJ sz, vS]
    refine jg T7_ mM 94 ll3 [(.long t), (.long f), (.ref pg)] (fun tT kK => ?_) ?_
    · refine XS.lstore X7_.here hx rfl (hC e9_82.2.2.1) rfl (l' := ll3) rfl ?_
      refine XS.aload X7_.here hx rfl (hC e9_82.2.2.2) rfl rfl ?_
      refine XS.lloadN X7_.here hx rfl (hC e9_91.1) rfl ?_
      refine XS.lload X7_.here hx rfl (hC e9_91.2.1) rfl ?_
      exact kK
    refine jv X7_ hx hZ (y := jy14) hown (jk hw 78 rfl) (jk hw 79 rfl) (jk hw 81 rfl) (jk hw 80 rfl) (jk hw 82 rfl) (jk hw 55 rfl) (rm_exc lL Z a0 hw [] pg ba kb sz ff ft lg lf lt f t en vs h0 n0 (Nat.le_trans Z0 K0.1) G0 G1 G2 G3 G4 G5 G6 G7 G8 G9 G10 Vb hl he hs h1 hg hn g_pg g_ba ne_pg_ba) G0 e7_ own_pd7 [(.long f), (.long t)] [] (hC e9_91.2.2) rfl rfl (by rw [hml]; rfl) (by decide) 0 (Nat.le_of_eq rfl) (by decide) (by decide) (by decide : 0 + 0 ≤ _) (by decide : 0 + 0 ≤ _) fun vv8_ T8_ L8_ X8_ hQ8_ => ?_
    obtain ⟨rfl, N8_q, p8__0, p8__1, p8__2⟩ := hQ8_
    have N8_ := Fr.app N4_ N8_q
    have fc9_ := F0.keep p8__0
    have fc10_ := F1.keep p8__0 (ninS ne_st_pg (ninS ne_st_ba nin0))
    have fc11_ := F2.keep p8__0 (ninS ne_st_pg (ninS ne_st_ba nin0))
    have fc12_ := F3.keep p8__0 (ninS ne_st_pg (ninS ne_st_ba nin0))
    have fc13_ := F4.keep p8__0 (ninS ne_st_pg (ninS ne_st_ba nin0))
    have K8_ := K0.trans p8__0 (allS (Or.inl (List.mem_of_getElem? (i := 1) rfl)) (allS (Or.inl (List.mem_of_getElem? (i := 2) rfl)) all0))
    refine jg T8_ mM 99 ll3 [(.ref st), (.ref st)] (fun tT kK => ?_) ?_
    · refine XS.aloadN X8_.here hx rfl (hC e9_97.1) rfl rfl ?_
      refine XS.dup X8_.here hx rfl (hC e9_97.2.1) rfl rfl ?_
      exact kK
    refine jf X8_ hx hZ hown (jk hw 43 rfl) rfl fc10_ (hC e9_97.2.2.1) fun T17_ X17_ e17_ => ?_
    refine jg T17_ mM 104 ll3 [(.ref pg), (.long zs), (.ref st)] (fun tT kK => ?_) ?_
    · refine XS.aload X17_.here hx rfl (hC e9_97.2.2.2) rfl rfl ?_
      exact kK
    obtain ⟨T18_, X18_, e18_, st18_⟩ := own_getRef X17_ hx hZ hown (jk hw 76 rfl) Via.refl e17_ p8__2 (g := (mkF mM 104 ll3 [(.ref pg), (.long zs), (.ref st)])) rfl rfl (hC e9_104.1)
    refine own_fin st18_ ?_
    refine jg T18_ mM 111 ll3 [(.long (zs + ((sz + (t - f)) - sz))), (.ref st)] (fun tT kK => ?_) ?_
    · refine XS.lload X18_.here hx rfl (hC e9_104.2.1) rfl ?_
      refine XS.lsub X18_.here hx rfl (hC e9_104.2.2.1) rfl ?_
      refine XS.ladd X18_.here hx rfl (hC e9_104.2.2.2) rfl ?_
      exact kK
    refine jq X18_ hx hZ hown (jk hw 43 rfl) e18_ fc10_ fc9_ (jk hw 44 rfl) (jk hw 6 rfl) (ty := .long) (by decide) rfl rfl (hC e9_111.1) K8_ N8_ (Or.inl (List.mem_of_getElem? (i := 0) rfl)) g_st fun T19_ h19_ X19_ e19_ W19_ Fw19_ K19_ N19_ => ?_
    have fc20_ := fc9_.wr W19_
    have fc21_ := fc11_.other W19_ (Or.inr (js0 hw).symm)
    have fc22_ := fc12_.other W19_ (Or.inr (js22 hw).symm)
    have fc23_ := fc13_.other W19_ (Or.inr (js3 hw).symm)
    exact own_rV X19_ hx hlk hre (hC e9_111.2) e19_ (by decide) (by decide) ⟨(zs + ((sz + (t - f)) - sz)), (1 : Int32), rfl, N19_, K19_, fc20_, Fw19_, fc21_, fc22_, fc23_⟩
  · refine jg T5_ mM 36 ll2 [(.ref pg), (.long f)] (fun tT kK => ?_) ?_
    · refine XS.icmpNo X5_.here hx rfl (hC e9_26.2.2) rfl (flt (hc30_6_ : ¬ ((en - (0 : Int32)) < pb))).1 ?_
      refine XS.lloadN X5_.here hx rfl (hC e9_33.1) rfl ?_
      refine XS.aload X5_.here hx rfl (hC e9_33.2.1) rfl rfl ?_
      exact kK
    refine jv X5_ hx hZ (y := jy3) hown (jk hw 173 rfl) (jk hw 84 rfl) (jk hw 86 rfl) (jk hw 85 rfl) (jk hw 87 rfl) (jk hw 55 rfl) (rm_ltb lL Z a0 hw [] pg lt h0 n0 (Nat.le_trans Z0 K0.1) G7 G10) G0 e5_ own_pd4 [] [(.long f)] (hC e9_33.2.2.1) rfl rfl (by rw [hml]; rfl) (by decide) 2 (Nat.le_of_eq rfl) (by decide) (by decide) (by decide : 0 + 0 ≤ _) (by decide : 0 + 0 ≤ _) fun vv28_ T28_ L28_ X28_ hQ28_ => ?_
    obtain ⟨rfl, N28_q, p28__0⟩ := hQ28_
    have N28_ := Fr.app N4_ N28_q
    refine jg T28_ mM 50 ll2 [(.ref pg)] (fun tT kK => ?_) ?_
    · refine XS.lcmp X28_.here hx rfl (hC e9_33.2.2.2) rfl ?_
      refine XS.ifNo X28_.here hx rfl (hC e9_40.1) rfl ((if0 _ _).trans (tlt ((lw_gt f lt).mpr (h1 : lt < f))).2.2.2) ?_
      refine XS.aload X28_.here hx rfl (hC e9_14.2.2.2) rfl rfl ?_
      refine XS.ifnullNo X28_.here hx rfl (hC e9_45.1) rfl ?_
      refine XS.aload X28_.here hx rfl (hC e9_40.2.1) rfl rfl ?_
      exact kK
    refine jv X28_ hx hZ (y := jy15) hown (jk hw 174 rfl) (jk hw 175 rfl) (jk hw 177 rfl) (jk hw 176 rfl) (jk hw 178 rfl) (jk hw 55 rfl) (rm_tr lL Z a0 hw [] pg ba kb sz ff ft lg lf lt en vs h0 n0 (Nat.le_trans Z0 K0.1) G0 G1 G2 G3 G4 G5 G6 G7 G8 G9 G10 Vb he g_pg ne_pg_ba) G0 p28__0 own_pd5 [] [] (hC e9_40.2.2) rfl rfl (by rw [hml]; rfl) (by decide) 0 (Nat.le_of_eq rfl) (by decide) (by decide) (by decide : 0 + 1 ≤ _) (by decide : 0 + 7 ≤ _) fun vv29_ T29_ L29_ X29_ hQ29_ => ?_
    obtain ⟨rfl, N29_q, p29__0, p29__1⟩ := hQ29_
    have N29_ := Fr.app N28_ N29_q
    have fc30_ := F0.keep p29__0
    have fc31_ := F1.keep p29__0 (ninS ne_st_pg nin0)
    have fc32_ := F2.keep p29__0 (ninS ne_st_pg nin0)
    have fc33_ := F3.keep p29__0 (ninS ne_st_pg nin0)
    have fc34_ := F4.keep p29__0 (ninS ne_st_pg nin0)
    have fc37_ := Vp.keep p29__0 (ninS ne_pa_pg nin0)
    have fc38_ := O0.keep p29__0 (allS g_pg all0)
    have K29_ := K0.trans p29__0 (allS (Or.inl (List.mem_of_getElem? (i := 1) rfl)) all0)
    obtain ⟨T39_, h39_, X39_, e39_, E39_, A39_, D39_, -, st39_⟩ := newO X29_ hx hZ hown (jk hw 53 rfl) (jk hw 54 rfl) (jk hw 55 rfl) rfl (g := (mkF mM 53 ll2 [])) rfl (hC e9_45.2.1) (by decide) (by decide)
    obtain ⟨b39_, g39_⟩ : ∃ z, z = T29_.heap.size := ⟨_, rfl⟩
    rw [← g39_] at A39_ D39_ st39_
    have sz_b39_ : h0.size ≤ b39_ := Nat.le_trans K29_.1 (Nat.le_of_eq g39_.symm)
    have ge_b39_ : n0 ≤ b39_ := Nat.le_trans Z0 sz_b39_
    have ne40_ : st ≠ b39_ := Nat.ne_of_lt (Nat.lt_of_lt_of_le fc30_.lt (Nat.le_of_eq g39_.symm))
    have ne43_ : pa ≠ b39_ := Nat.ne_of_lt (Nat.lt_of_lt_of_le fc37_.lt (Nat.le_of_eq g39_.symm))
    have fc44_ := fc30_.ext E39_
    have fc45_ := fc31_.ext E39_
    have fc46_ := fc32_.ext E39_
    have fc47_ := fc33_.ext E39_
    have fc48_ := fc34_.ext E39_
    have fc51_ := fc37_.ext E39_
    have fc52_ := fc38_.ext E39_
    have K39_ := K29_.ext E39_
    have F39__bytes : jF12 Z h39_ b39_ .null := D39_ (Or.inl (jk hw 63 rfl)) (ty := (.array .byte)) (by decide)
    have F39__lastAt : jF3 Z h39_ b39_ (.int (0 : Int32)) := D39_ (Or.inl (jk hw 65 rfl)) (ty := .int) (by decide)
    have F39__size : jF11 Z h39_ b39_ (.long (0 : Int64)) := D39_ (Or.inl (jk hw 77 rfl)) (ty := .long) (by decide)
    have F39__firstTo : jF4 Z h39_ b39_ (.long (0 : Int64)) := D39_ (Or.inl (jk hw 89 rfl)) (ty := .long) (by decide)
    have F39__firstFrom : jF2 Z h39_ b39_ (.long (0 : Int64)) := D39_ (Or.inl (jk hw 92 rfl)) (ty := .long) (by decide)
    have F39__end : jF7 Z h39_ b39_ (.int (0 : Int32)) := D39_ (Or.inl (jk hw 106 rfl)) (ty := .int) (by decide)
    have F39__start : jF8 Z h39_ b39_ (.int (0 : Int32)) := D39_ (Or.inl (jk hw 108 rfl)) (ty := .int) (by decide)
    have F39__lastGap : jF13 Z h39_ b39_ (.long (0 : Int64)) := D39_ (Or.inl (jk hw 124 rfl)) (ty := .long) (by decide)
    have F39__lastFrom : jF6 Z h39_ b39_ (.long (0 : Int64)) := D39_ (Or.inl (jk hw 126 rfl)) (ty := .long) (by decide)
    have F39__lastTo : jF5 Z h39_ b39_ (.long (0 : Int64)) := D39_ (Or.inl (jk hw 128 rfl)) (ty := .long) (by decide)
    refine own_fin st39_ ?_
    refine jg T39_ mM 57 ll2 [(.ref b39_), (.ref b39_)] (fun tT kK => ?_) ?_
    · refine XS.dup X39_.here hx rfl (hC e9_45.2.2.1) rfl rfl ?_
      exact kK
    obtain ⟨_, _, ⟨T53_, L53_, k53_, n53_⟩, -, X53_, ⟨Lc53_, hQ53_, l53_, y53_, z53_⟩, st53_⟩ := own_specialRef X39_ hx hZ (y := jy7) rfl hown (jk hw 56 rfl) (jk hw 57 rfl) (jm hZ hw 58 rfl) (by decide) (backOf (W := 1) (rm_pg lL Z a0 hw [] b39_ nb h39_ n0 (Nat.le_trans Z0 K39_.1) A39_ F39__size F39__firstFrom F39__firstTo F39__bytes F39__start F39__end F39__lastAt F39__lastGap F39__lastFrom F39__lastTo Zb fc52_ ge_b39_) hZ (jk hw 58 rfl) (jk hw 55 rfl) (by decide) (by decide)) (g := (mkF mM 57 ll2 [(.ref b39_), (.ref b39_)])) rfl (by rw [hml]; rfl) (Steps.refl _) (a := b39_) (argsL := []) (rest := [(.ref b39_)]) (lenOf own_pd5 rfl) rfl (by show 2 * 0 + _ ≤ _; exact Nat.le_of_eq rfl) (hC e9_45.2.2.2) (fun _ _ => ⟨rfl, e39_, (by decide : 2 + 0 ≤ _), (by decide : 17 + 0 ≤ _)⟩)
    dsimp only [Pt.U, Pt.locs, Pt.cells, Pt.slots] at X53_ l53_ y53_ z53_ st53_ hQ53_
    subst l53_ y53_ z53_
    obtain ⟨rfl, N53_q, p53__0, p53__1, p53__2, p53__3, p53__4, p53__5, p53__6, p53__7, p53__8, p53__9, p53__10, p53__11⟩ := hQ53_
    have N53_ := Fr.app N29_ N53_q
    have fc54_ := fc44_.keep p53__0
    have fc55_ := fc45_.keep p53__0 (ninS ne40_ nin0)
    have fc56_ := fc46_.keep p53__0 (ninS ne40_ nin0)
    have fc57_ := fc47_.keep p53__0 (ninS ne40_ nin0)
    have fc58_ := fc48_.keep p53__0 (ninS ne40_ nin0)
    have fc61_ := fc51_.keep p53__0 (ninS ne43_ nin0)
    have K53_ := K39_.trans p53__0 (allS (Or.inr sz_b39_) all0)
    refine own_fin (fun tT kK => st53_.trans kK) ?_
    let ll4 : Array Slot := #[vR st, vI 0, vJ f, vS, vJ t, vS, vR b39_, vU, vU]
    refine jg T53_ mM 70 ll4 [(.int (1 : Int32)), (.int (1 : Int32)), (.int (1 : Int32)), (.ref st)] (fun tT kK => ?_) ?_
    · refine XS.astore X53_.here hx rfl (hC e9_60.1) rfl rfl (l' := ll4) rfl ?_
      refine XS.aloadN X53_.here hx rfl (hC e9_60.2.1) rfl rfl ?_
      refine XS.iloadN X53_.here hx rfl (hC e9_60.2.2.1) rfl ?_
      refine XS.iconst X53_.here hx rfl (hC e9_60.2.2.2) ?_
      refine XS.iadd X53_.here hx rfl (hC e9_65.1) rfl ?_
      refine XS.iloadN X53_.here hx rfl (hC e9_65.2.1) rfl ?_
      refine XS.iconst X53_.here hx rfl (hC e9_65.2.2.1) ?_
      refine XS.iadd X53_.here hx rfl (hC e9_65.2.2.2) rfl ?_
      refine XS.iconst X53_.here hx rfl (hC e9_69.1) ?_
      exact kK
    obtain ⟨T64_, h64_, k64_, X64_, e64_, E64_, A64_, O64_, st64_⟩ := newR X53_ hx hZ hown (jk hw 53 rfl) (jk hw 66 rfl) rfl (g := (mkF mM 70 ll4 [(.int (1 : Int32)), (.int (1 : Int32)), (.int (1 : Int32)), (.ref st)])) rfl (hC e9_69.2.1) rfl (by decide) (cap := 1) (by decide) (by decide) (by decide) (by decide)
    obtain ⟨b64_, g64_⟩ : ∃ z, z = T53_.heap.size := ⟨_, rfl⟩
    rw [← g64_] at A64_ st64_
    have sz_b64_ : h0.size ≤ b64_ := Nat.le_trans K53_.1 (Nat.le_of_eq g64_.symm)
    have ge_b64_ : n0 ≤ b64_ := Nat.le_trans Z0 sz_b64_
    have ne65_ : st ≠ b64_ := Nat.ne_of_lt (Nat.lt_of_lt_of_le fc54_.lt (Nat.le_of_eq g64_.symm))
    have ne68_ : pa ≠ b64_ := Nat.ne_of_lt (Nat.lt_of_lt_of_le fc61_.lt (Nat.le_of_eq g64_.symm))
    have ne69_ : b39_ ≠ b64_ := Nat.ne_of_lt (Nat.lt_of_lt_of_le p53__1.lt (Nat.le_of_eq g64_.symm))
    have fc70_ := fc54_.ext E64_
    have fc71_ := fc55_.ext E64_
    have fc72_ := fc56_.ext E64_
    have fc73_ := fc57_.ext E64_
    have fc74_ := fc58_.ext E64_
    have fc77_ := fc61_.ext E64_
    have fc79_ := p53__1.ext E64_
    have fc80_ := p53__2.ext E64_
    have fc81_ := p53__3.ext E64_
    have fc82_ := p53__4.ext E64_
    have fc83_ := p53__5.ext E64_
    have fc84_ := p53__6.ext E64_
    have fc85_ := p53__7.ext E64_
    have fc86_ := p53__8.ext E64_
    have fc87_ := p53__9.ext E64_
    have fc88_ := p53__10.ext E64_
    have fc89_ := p53__11.ext E64_
    have K64_ := K53_.ext E64_
    have V64_ : Arv Z h64_ b64_ k64_ (.object "com/example/portion/portion/server/OffsetSet$Page") (1 : Int32) [.null] .null := (Arv.new A64_ (by decide)).pad (pad_rep [] .null 1)
    refine own_fin st64_ ?_
    refine jg T64_ mM 77 ll4 [(.ref b39_), (.int (0 : Int32)), (.ref b64_), (.ref b64_), (.int (1 : Int32)), (.int (1 : Int32)), (.ref st)] (fun tT kK => ?_) ?_
    · refine XS.dup X64_.here hx rfl (hC e9_69.2.2.1) rfl rfl ?_
      refine XS.iconst X64_.here hx rfl (hC e9_69.2.2.2) ?_
      refine XS.aload X64_.here hx rfl (hC e9_75.1) rfl rfl ?_
      exact kK
    obtain ⟨cl90_, Ar90_, qk90_, Sz90_, Nn90_, Hh90_, Gg90_⟩ := id V64_
    have hin91_ : ¬ ((0 : Int32) < 0 ∨ cl90_.slots.size ≤ ((0 : Int32)).toNatClampNeg) := inb_of Sz90_ ⟨by decide, by decide⟩
    obtain ⟨T91_, h91_, X91_, e91_, W91_, st91_⟩ := stR X64_ hx hZ e64_ Ar90_ (j := (0 : Int32)) hin91_ rfl (Sto.ofV Ar90_ qk90_ O64_ (Ins.self fc79_)) (g := (mkF mM 77 ll4 [(.ref b39_), (.int (0 : Int32)), (.ref b64_), (.ref b64_), (.int (1 : Int32)), (.int (1 : Int32)), (.ref st)])) rfl rfl (hC e9_75.2.1)
    have V91_ : Arv Z h91_ b64_ k64_ (.object "com/example/portion/portion/server/OffsetSet$Page") (1 : Int32) [(.ref b39_)] .null := Arv.set Ar90_ qk90_ Sz90_ Nn90_ Hh90_ Gg90_ rfl W91_ 0 rfl (Nat.le_of_ble_eq_true rfl)
    have fc92_ := fc70_.wr W91_
    have fc93_ := fc71_.other W91_ (Or.inl ne65_)
    have fc94_ := fc72_.other W91_ (Or.inl ne65_)
    have fc95_ := fc73_.other W91_ (Or.inl ne65_)
    have fc96_ := fc74_.other W91_ (Or.inl ne65_)
    have fc99_ := fc77_.other W91_ ne68_
    have fc101_ := fc79_.wr W91_
    have fc102_ := fc80_.other W91_ (Or.inl ne69_)
    have fc103_ := fc81_.other W91_ (Or.inl ne69_)
    have fc104_ := fc82_.other W91_ (Or.inl ne69_)
    have fc105_ := fc83_.other W91_ (Or.inl ne69_)
    have fc106_ := fc84_.other W91_ (Or.inl ne69_)
    have fc107_ := fc85_.other W91_ (Or.inl ne69_)
    have fc108_ := fc86_.other W91_ (Or.inl ne69_)
    have fc109_ := fc87_.other W91_ (Or.inl ne69_)
    have fc110_ := fc88_.other W91_ (Or.inl ne69_)
    have fc111_ := fc89_.other W91_ (Or.inl ne69_)
    have K91_ := K64_.wr W91_ (Or.inr sz_b64_)
    have N91_ := Fr.snoc X91_ N53_ ge_b64_
    refine own_fin st91_ ?_
    refine jg T91_ mM 79 ll4 [(.int (1 : Int32)), (.ref b64_), (.int (1 : Int32)), (.int (1 : Int32)), (.ref st)] (fun tT kK => ?_) ?_
    · refine XS.iconst X91_.here hx rfl (hC e9_75.2.2.1) ?_
      exact kK
    refine jw X91_ hx hZ (y := jy8) hown (jk hw 68 rfl) (jk hw 69 rfl) (own_selP (y := jy8) hZ (jk hw 6 rfl) (jk hw 70 rfl) (jk hw 69 rfl) (by decide)) (jk hw 70 rfl) (jk hw 71 rfl) (jk hw 7 rfl) (rm_rpb lL Z a0 hw [] st b64_ b39_ pg pa kq k64_ zs pb h91_ n0 (Nat.le_trans Z0 K91_.1) fc92_ fc93_ fc94_ fc95_ fc96_ fc99_ V91_ fc101_ Oq g_st g_pa ne65_ ne40_ ne_st_pa (Ne.symm ne69_) (Ne.symm ne68_) (Ne.symm ne43_)) fc92_ e91_ own_pd6 [(.int (1 : Int32)), (.int (1 : Int32)), (.ref b64_), (.int (1 : Int32))] [] (hC e9_75.2.2.2) rfl rfl (by rw [hml]; rfl) (by decide) 0 (Nat.le_of_eq rfl) (by decide) (by decide) (by decide : 3 + 0 ≤ _) (by decide : 18 + 0 ≤ _) fun vv112_ T112_ L112_ X112_ hQ112_ => ?_
    obtain ⟨rfl, N112_q, p112__0, p112__1, p112__2, p112__3, p112__4, p112__5⟩ := hQ112_
    have N112_ := Fr.app N91_ N112_q
    have fc117_ := fc101_.keep p112__0
    have fc118_ := fc102_.keep p112__0 (ninS (Ne.symm ne40_) (ninS (Ne.symm ne43_) nin0))
    have fc119_ := fc103_.keep p112__0 (ninS (Ne.symm ne40_) (ninS (Ne.symm ne43_) nin0))
    have fc120_ := fc104_.keep p112__0 (ninS (Ne.symm ne40_) (ninS (Ne.symm ne43_) nin0))
    have fc121_ := fc105_.keep p112__0 (ninS (Ne.symm ne40_) (ninS (Ne.symm ne43_) nin0))
    have fc122_ := fc106_.keep p112__0 (ninS (Ne.symm ne40_) (ninS (Ne.symm ne43_) nin0))
    have fc123_ := fc107_.keep p112__0 (ninS (Ne.symm ne40_) (ninS (Ne.symm ne43_) nin0))
    have fc124_ := fc108_.keep p112__0 (ninS (Ne.symm ne40_) (ninS (Ne.symm ne43_) nin0))
    have fc125_ := fc109_.keep p112__0 (ninS (Ne.symm ne40_) (ninS (Ne.symm ne43_) nin0))
    have fc126_ := fc110_.keep p112__0 (ninS (Ne.symm ne40_) (ninS (Ne.symm ne43_) nin0))
    have fc127_ := fc111_.keep p112__0 (ninS (Ne.symm ne40_) (ninS (Ne.symm ne43_) nin0))
    have K112_ := K91_.trans p112__0 (allS (Or.inl (List.mem_of_getElem? (i := 0) rfl)) (allS (Or.inl (List.mem_of_getElem? (i := 3) rfl)) all0))
    refine jg T112_ mM 84 ll4 [(.ref b39_)] (fun tT kK => ?_) ?_
    · refine XS.aload X112_.here hx rfl (hC e9_82.1) rfl rfl ?_
      exact kK
    obtain ⟨T129_, X129_, e129_, st129_⟩ := own_getRef X112_ hx hZ hown (jk hw 76 rfl) Via.refl rfl fc118_ (g := (mkF mM 84 ll4 [(.ref b39_)])) rfl rfl (hC e9_82.2.1)
    refine own_fin st129_ ?_
    let ll5 : Array Slot := #[vR st, vI 0, vJ f, vS, vJ t, vS, vR b39_, vJ 0, vS]
    refine jg T129_ mM 94 ll5 [(.long t), (.long f), (.ref b39_)] (fun tT kK => ?_) ?_
    · refine XS.lstore X129_.here hx rfl (hC e9_82.2.2.1) rfl (l' := ll5) rfl ?_
      refine XS.aload X129_.here hx rfl (hC e9_82.2.2.2) rfl rfl ?_
      refine XS.lloadN X129_.here hx rfl (hC e9_91.1) rfl ?_
      refine XS.lload X129_.here hx rfl (hC e9_91.2.1) rfl ?_
      exact kK
    refine jv X129_ hx hZ (y := jy14) hown (jk hw 78 rfl) (jk hw 79 rfl) (jk hw 81 rfl) (jk hw 80 rfl) (jk hw 82 rfl) (jk hw 55 rfl) (rm_exa lL Z a0 hw [] b39_ nb f t T112_.heap n0 (Nat.le_trans Z0 K112_.1) fc117_ fc118_ fc119_ fc120_ fc121_ fc122_ fc123_ fc124_ fc125_ fc126_ fc127_ ge_b39_) fc117_ e129_ own_pd7 [(.long f), (.long t)] [] (hC e9_91.2.2) rfl rfl (by rw [hml]; rfl) (by decide) 0 (Nat.le_of_eq rfl) (by decide) (by decide) (by decide : 3 + 0 ≤ _) (by decide : 18 + 0 ≤ _) fun vv130_ T130_ L130_ X130_ hQ130_ => ?_
    obtain ⟨rfl, N130_q, p130__0, p130__1, p130__2, p130__3, p130__4, p130__5, p130__6, p130__7, p130__8, p130__9, p130__10, p130__11⟩ := hQ130_
    have N130_ := Fr.app N112_ N130_q
    have fc131_ := p112__1.keep p130__0
    have fc137_ := p112__2.keep p130__0 (ninS ne40_ nin0)
    have fc138_ := p112__3.keep p130__0 (ninS ne40_ nin0)
    have fc139_ := p112__4.keep p130__0 (ninS ne40_ nin0)
    have fc140_ := p112__5.keep p130__0 (ninS ne40_ nin0)
    have K130_ := K112_.trans p130__0 (allS (Or.inr sz_b39_) all0)
    refine jg T130_ mM 99 ll5 [(.ref st), (.ref st)] (fun tT kK => ?_) ?_
    · refine XS.aloadN X130_.here hx rfl (hC e9_97.1) rfl rfl ?_
      refine XS.dup X130_.here hx rfl (hC e9_97.2.1) rfl rfl ?_
      exact kK
    refine jf X130_ hx hZ hown (jk hw 43 rfl) rfl fc137_ (hC e9_97.2.2.1) fun T141_ X141_ e141_ => ?_
    refine jg T141_ mM 104 ll5 [(.ref b39_), (.long zs), (.ref st)] (fun tT kK => ?_) ?_
    · refine XS.aload X141_.here hx rfl (hC e9_97.2.2.2) rfl rfl ?_
      exact kK
    obtain ⟨T142_, X142_, e142_, st142_⟩ := own_getRef X141_ hx hZ hown (jk hw 76 rfl) Via.refl e141_ p130__2 (g := (mkF mM 104 ll5 [(.ref b39_), (.long zs), (.ref st)])) rfl rfl (hC e9_104.1)
    refine own_fin st142_ ?_
    refine jg T142_ mM 111 ll5 [(.long (zs + ((t - f) - (0 : Int64)))), (.ref st)] (fun tT kK => ?_) ?_
    · refine XS.lload X142_.here hx rfl (hC e9_104.2.1) rfl ?_
      refine XS.lsub X142_.here hx rfl (hC e9_104.2.2.1) rfl ?_
      refine XS.ladd X142_.here hx rfl (hC e9_104.2.2.2) rfl ?_
      exact kK
    refine jq X142_ hx hZ hown (jk hw 43 rfl) e142_ fc137_ fc131_ (jk hw 44 rfl) (jk hw 6 rfl) (ty := .long) (by decide) rfl rfl (hC e9_111.1) K130_ N130_ (Or.inl (List.mem_of_getElem? (i := 0) rfl)) g_st fun T143_ h143_ X143_ e143_ W143_ Fw143_ K143_ N143_ => ?_
    have fc144_ := fc131_.wr W143_
    have fc150_ := fc138_.other W143_ (Or.inr (js0 hw).symm)
    have fc151_ := fc139_.other W143_ (Or.inr (js22 hw).symm)
    have fc152_ := fc140_.other W143_ (Or.inr (js3 hw).symm)
    exact own_rV X143_ hx hlk hre (hC e9_111.2) e143_ (by decide) (by decide) ⟨(zs + ((t - f) - (0 : Int64))), (2 : Int32), rfl, N143_, K143_, fc144_, Fw143_, fc150_, fc151_, fc152_⟩
theorem own_ef_rm_ar2 (mM : MethodId) (x0 : Addr) (x1 : Int64) (x2 : Int64) : entryFrame mM #[(.ref x0), (.long x1), (.long x2)] 8 = mkF mM 0 #[.val (.ref x0), .val (.long x1), .second, .val (.long x2), .second, .unset, .unset, .unset] [] := by first | (simp [entryFrame, mkF, argsToLocals, Value.category]; done) | rfl
def Q_rm_ar2 (Z : State) (st : Addr) (pa : Addr) (pg : Addr) (ba : Addr) (nb : Addr) (kq : ClassId) (kb : ClassId) (pb : Int32) (en : Int32) (sz : Int64) (ff : Int64) (ft : Int64) (lg : Int64) (lf : Int64) (lt : Int64) (f : Int64) (t : Int64) (zs : Int64) (vs : List Value) (h0 : Heap) (n0 : Nat) (vV : Option Value) (hH : Heap) (lA : List Loc) : Prop := ∃ z' : Int64, ∃ c' : Int32, vV = none ∧ Fr n0 lA ∧ (Keep h0 hH [st, pg, ba, pa]) ∧ (jE0 Z hH st) ∧ (jF9 Z hH st (.long z')) ∧ (jF1 Z hH st (.ref pa)) ∧ (jF0 Z hH st (.int c')) ∧ (jF10 Z hH st (.int pb))
set_option maxRecDepth 65536 in
set_option maxHeartbeats 40000000 in
theorem rm_ar2 (lL : Launch) (Z : State) (a0 : Array Value) (hw : own_H a0 Z) (ws : List Jvm.Cond) (st : Addr) (pa : Addr) (pg : Addr) (ba : Addr) (nb : Addr) (kq : ClassId) (kb : ClassId) (pb : Int32) (en : Int32) (sz : Int64) (ff : Int64) (ft : Int64) (lg : Int64) (lf : Int64) (lt : Int64) (f : Int64) (t : Int64) (zs : Int64) (vs : List Value) (h0 : Heap) (n0 : Nat) (Z0 : n0 ≤ h0.size) (F0 : jE0 Z h0 st) (F1 : jF9 Z h0 st (.long zs)) (F2 : jF1 Z h0 st (.ref pa)) (F3 : jF0 Z h0 st (.int (1 : Int32))) (F4 : jF10 Z h0 st (.int pb)) (G0 : jE1 Z h0 pg) (G1 : jF11 Z h0 pg (.long sz)) (G2 : jF2 Z h0 pg (.long ff)) (G3 : jF4 Z h0 pg (.long ft)) (G4 : jF12 Z h0 pg (.ref ba)) (G5 : jF8 Z h0 pg (.int (0 : Int32))) (G6 : jF7 Z h0 pg (.int en)) (G7 : jF3 Z h0 pg (.int (0 : Int32))) (G8 : jF13 Z h0 pg (.long lg)) (G9 : jF6 Z h0 pg (.long lf)) (G10 : jF5 Z h0 pg (.long lt)) (Vb : Arv Z h0 ba kb .byte (28 : Int32) vs (.int (0 : Int32))) (hl : vs.length = 28) (he : 1 ≤ en.toInt ∧ en.toInt ≤ 7) (Vp : Arv Z h0 pa kq (.object "com/example/portion/portion/server/OffsetSet$Page") (2 : Int32) [(.ref pg), .null] .null) (Oq : Ovr Z kq "com/example/portion/portion/server/OffsetSet$Page") (Zb : Sta Z Z.heap "com/example/portion/portion/server/OffsetSet" "NO_BYTES" "[B" (.ref nb)) (O0 : Old Z n0 h0) (hs : ¬ (sz = (0 : Int64))) (h1 : lt < f) (hg : 1 ≤ (f - lt).toInt ∧ (f - lt).toInt ≤ 16777216) (hn : 1 ≤ (t - f).toInt ∧ (t - f).toInt ≤ 4096) (g_st : n0 ≤ st) (g_pa : n0 ≤ pa) (g_pg : n0 ≤ pg) (g_ba : n0 ≤ ba) (ne_st_pa : st ≠ pa) (ne_st_pg : st ≠ pg) (ne_st_ba : st ≠ ba) (ne_pa_pg : pa ≠ pg) (ne_pa_ba : pa ≠ ba) (ne_pg_ba : pg ≠ ba) (c1 : ¬ (f < (0 : Int64))) (c2 : f < t) (c3 : ¬ (f < ff)) (c4 : ¬ (t < ff)) (c5 : ¬ (f < lf)) (hz : ¬ (zs = (0 : Int64))) :
    own_Met lL jy18 (Jvm.Cond.code jy18 prog_38_method_9_code 8 none :: ws) jr19 #[(.ref st), (.long f), (.long t)] Z h0 (Q_rm_ar2 Z st pa pg ba nb kq kb pb en sz ff ft lg lf lt f t zs vs h0 n0) := by
  refine own_begin (plainFor_of_name own_pn_com_example_portion_portion_server_OffsetSet) (fun mM => own_ef_rm_ar2 mM st f t) fun pP eE sS mM below meth cC s₁ hx hby hml hZ hown hnm hre hlk X0 e0 => ?_
  have hC := @Jvm.hb _ _ hby
  have N0 := Fr.nil n0
  have K0 := Keep.refl h0 [st, pg, ba, pa]
  let ll1 : Array Slot := #[vR st, vJ f, vS, vJ t, vS, vU, vU, vU]
  refine jg s₁ mM 2 ll1 [(.long t), (.long f)] (fun tT kK => ?_) ?_
  · refine XS.lloadN X0.here hx rfl (hC e4_0.1) rfl ?_
    refine XS.lloadN X0.here hx rfl (hC e4_0.2.1) rfl ?_
    exact kK
  refine jc X0 hx hZ (y := jy0) hown (jk hw 30 rfl) (jk hw 31 rfl) (jk hw 7 rfl) (jk hw 32 rfl) (rm_req lL Z a0 hw [] f t h0 n0 (Nat.le_trans Z0 K0.1) c1 c2) e0 own_pd7 [(.long f), (.long t)] [] (hC e4_0.2.2.1) rfl rfl (by rw [hml]; rfl) (by decide) 0 (Nat.le_of_eq rfl) (by decide) (by decide) (by decide : 0 + 0 ≤ _) (by decide : 0 + 0 ≤ _) fun vv1_ T1_ L1_ X1_ hQ1_ => ?_
  obtain ⟨rfl, N1_q, p1__0⟩ := hQ1_
  have N1_ := Fr.app N0 N1_q
  refine jg T1_ mM 8 ll1 [(.long f), (.ref st), (.int (0 : Int32))] (fun tT kK => ?_) ?_
  · refine XS.iconst X1_.here hx rfl (hC e4_0.2.2.2) ?_
    refine XS.aloadN X1_.here hx rfl (hC e4_6.1) rfl rfl ?_
    refine XS.lloadN X1_.here hx rfl (hC e4_6.2.1) rfl ?_
    exact kK
  refine jw X1_ hx hZ (y := jy2) hown (jk hw 33 rfl) (jk hw 34 rfl) (own_selP (y := jy2) hZ (jk hw 6 rfl) (jk hw 35 rfl) (jk hw 34 rfl) (by decide)) (jk hw 35 rfl) (jk hw 36 rfl) (jk hw 7 rfl) (rm_pay lL Z a0 hw [] st pa pg kq f ff h0 n0 (Nat.le_trans Z0 K0.1) F3 F2 Vp G2 c3) F0 p1__0 own_pd9 [(.long f)] [(.int (0 : Int32))] (hC e4_6.2.2) rfl rfl (by rw [hml]; rfl) (by decide) 1 (Nat.le_of_eq rfl) (by decide) (by decide) (by decide : 0 + 0 ≤ _) (by decide : 0 + 0 ≤ _) fun vv2_ T2_ L2_ X2_ hQ2_ => ?_
  obtain ⟨rfl, N2_q, p2__0⟩ := hQ2_
  have N2_ := Fr.app N1_ N2_q
  refine jc X2_ hx hZ (y := jy1) hown (jk hw 39 rfl) (jk hw 40 rfl) (jk hw 41 rfl) (jk hw 42 rfl) (rm_mxb lL Z a0 hw []  h0 n0 (Nat.le_trans Z0 K0.1) ) p2__0 own_pd1 [(.int (0 : Int32)), (.int (0 : Int32))] [] (hC e4_11.1) rfl rfl (by rw [hml]; rfl) (by decide) 0 (Nat.le_of_eq rfl) (by decide) (by decide) (by decide : 0 + 0 ≤ _) (by decide : 0 + 0 ≤ _) fun vv3_ T3_ L3_ X3_ hQ3_ => ?_
  obtain ⟨rfl, N3_q, p3__0⟩ := hQ3_
  have N3_ := Fr.app N2_ N3_q
  let ll2 : Array Slot := #[vR st, vJ f, vS, vJ t, vS, vI 0, vU, vU]
  refine jg T3_ mM 19 ll2 [(.long t), (.ref st), (.int (0 : Int32))] (fun tT kK => ?_) ?_
  · refine XS.istore X3_.here hx rfl (hC e4_11.2.1) rfl (l' := ll2) rfl ?_
    refine XS.iconst X3_.here hx rfl (hC e4_11.2.2.1) ?_
    refine XS.aloadN X3_.here hx rfl (hC e4_11.2.2.2) rfl rfl ?_
    refine XS.lloadN X3_.here hx rfl (hC e4_18.1) rfl ?_
    exact kK
  refine jw X3_ hx hZ (y := jy2) hown (jk hw 33 rfl) (jk hw 34 rfl) (own_selP (y := jy2) hZ (jk hw 6 rfl) (jk hw 35 rfl) (jk hw 34 rfl) (by decide)) (jk hw 35 rfl) (jk hw 36 rfl) (jk hw 7 rfl) (rm_pay lL Z a0 hw [] st pa pg kq t ff h0 n0 (Nat.le_trans Z0 K0.1) F3 F2 Vp G2 c4) F0 p3__0 own_pd9 [(.long t)] [(.int (0 : Int32))] (hC e4_18.2.1) rfl rfl (by rw [hml]; rfl) (by decide) 1 (Nat.le_of_eq rfl) (by decide) (by decide) (by decide : 0 + 0 ≤ _) (by decide : 0 + 0 ≤ _) fun vv4_ T4_ L4_ X4_ hQ4_ => ?_
  obtain ⟨rfl, N4_q, p4__0⟩ := hQ4_
  have N4_ := Fr.app N3_ N4_q
  refine jc X4_ hx hZ (y := jy1) hown (jk hw 39 rfl) (jk hw 40 rfl) (jk hw 41 rfl) (jk hw 42 rfl) (rm_mxb lL Z a0 hw []  h0 n0 (Nat.le_trans Z0 K0.1) ) p4__0 own_pd1 [(.int (0 : Int32)), (.int (0 : Int32))] [] (hC e4_18.2.2.1) rfl rfl (by rw [hml]; rfl) (by decide) 0 (Nat.le_of_eq rfl) (by decide) (by decide) (by decide : 0 + 0 ≤ _) (by decide : 0 + 0 ≤ _) fun vv5_ T5_ L5_ X5_ hQ5_ => ?_
  obtain ⟨rfl, N5_q, p5__0⟩ := hQ5_
  have N5_ := Fr.app N4_ N5_q
  let ll3 : Array Slot := #[vR st, vJ f, vS, vJ t, vS, vI 0, vI 0, vU]
  refine jg T5_ mM 28 ll3 [(.ref st)] (fun tT kK => ?_) ?_
  · refine XS.istore X5_.here hx rfl (hC e4_18.2.2.2) rfl (l' := ll3) rfl ?_
    refine XS.aloadN X5_.here hx rfl (hC e4_27.1) rfl rfl ?_
    exact kK
  refine jf X5_ hx hZ hown (jk hw 43 rfl) p5__0 F1 (hC e4_27.2.1) fun T6_ X6_ e6_ => ?_
  refine jg T6_ mM 54 ll3 [(.ref st), (.long f)] (fun tT kK => ?_) ?_
  · refine XS.lconst X6_.here hx rfl (hC e4_27.2.2.1) ?_
    refine XS.lcmp X6_.here hx rfl (hC e4_27.2.2.2) rfl ?_
    refine XS.ifYes X6_.here hx rfl (pc0 := 33) (pc' := 45) rfl (hC e4_33.1) rfl ((if0 _ _).trans (feq (mt (lw_eq zs (0 : Int64)).mp (hz : ¬ (zs = (0 : Int64))))).2) (by decide) (by decide) ?_
    refine XS.iload X6_.here hx rfl (hC e4_45.1) rfl ?_
    refine XS.iload X6_.here hx rfl (hC e4_45.2.1) rfl ?_
    refine XS.icmpNo X6_.here hx rfl (hC e4_45.2.2.1) rfl (teq ((by decide) : (0 : Int32) = (0 : Int32))).2 ?_
    refine XS.lloadN X6_.here hx rfl (hC e4_45.2.2.2) rfl ?_
    refine XS.aloadN X6_.here hx rfl (hC e4_53.1) rfl rfl ?_
    exact kK
  refine jf X6_ hx hZ hown (jk hw 16 rfl) e6_ F2 (hC e4_53.2.1) fun T7_ X7_ e7_ => ?_
  refine jg T7_ mM 59 ll3 [(.int (0 : Int32)), (.ref pa), (.long f)] (fun tT kK => ?_) ?_
  · refine XS.iload X7_.here hx rfl (hC e4_53.2.2.1) rfl ?_
    exact kK
  obtain ⟨cl8_, Ar8_, qk8_, Sz8_, Nn8_, Hh8_, Gg8_⟩ := id Vp
  have hin9_ : ¬ ((0 : Int32) < 0 ∨ cl8_.slots.size ≤ ((0 : Int32)).toNatClampNeg) := inb_of Sz8_ ⟨by decide, by decide⟩
  have hat9_ : cl8_.slots[((0 : Int32)).toNatClampNeg]? = some (.ref pg) := Hh8_.at hin9_ rfl
  refine jg T7_ mM 60 ll3 [(.ref pg), (.long f)] (fun tT kK => ?_) ?_
  · refine X7_.aaload hx (j := (0 : Int32)) (v := (.ref pg)) (own_rw e7_ Ar8_.1) (State.isArrayOf_alike hZ.alike Ar8_.2.1) rfl Ar8_.2.2 hin9_ hat9_ (g := (mkF mM 59 ll3 [(.int (0 : Int32)), (.ref pa), (.long f)])) rfl rfl (hC e4_53.2.2.2) _ ?_
    exact kK
  refine jv X7_ hx hZ (y := jy4) hown (jk hw 95 rfl) (jk hw 96 rfl) (jk hw 98 rfl) (jk hw 97 rfl) (jk hw 99 rfl) (jk hw 55 rfl) (rm_lfb lL Z a0 hw [] pg lf h0 n0 (Nat.le_trans Z0 K0.1) G7 G9) G0 e7_ own_pd4 [] [(.long f)] (hC e4_60.1) rfl rfl (by rw [hml]; rfl) (by decide) 2 (Nat.le_of_eq rfl) (by decide) (by decide) (by decide : 0 + 0 ≤ _) (by decide : 0 + 0 ≤ _) fun vv10_ T10_ L10_ X10_ hQ10_ => ?_
  obtain ⟨rfl, N10_q, p10__0⟩ := hQ10_
  have N10_ := Fr.app N5_ N10_q
  refine jg T10_ mM 72 ll3 [(.long t), (.long f), (.int (0 : Int32)), (.ref st)] (fun tT kK => ?_) ?_
  · refine XS.lcmp X10_.here hx rfl (hC e4_60.2.1) rfl ?_
    refine XS.ifNo X10_.here hx rfl (hC e4_60.2.2.1) rfl ((if0 _ _).trans (flt (mt (lw_lt f lf).mp (c5 : ¬ (f < lf)))).1) ?_
    refine XS.aloadN X10_.here hx rfl (hC e4_60.2.2.2) rfl rfl ?_
    refine XS.iload X10_.here hx rfl (hC e4_68.1) rfl ?_
    refine XS.lloadN X10_.here hx rfl (hC e4_68.2.1) rfl ?_
    refine XS.lloadN X10_.here hx rfl (hC e4_68.2.2.1) rfl ?_
    exact kK
  refine jw X10_ hx hZ (y := jy16) hown (jk hw 49 rfl) (jk hw 50 rfl) (own_selP (y := jy16) hZ (jk hw 6 rfl) (jk hw 51 rfl) (jk hw 50 rfl) (by decide)) (jk hw 51 rfl) (jk hw 52 rfl) (jk hw 7 rfl) (rm_atc lL Z a0 hw [] st pa pg ba nb kq kb pb en sz ff ft lg lf lt f t zs vs h0 n0 (Nat.le_trans Z0 K0.1) F0 F1 F2 F3 F4 G0 G1 G2 G3 G4 G5 G6 G7 G8 G9 G10 Vb hl he Vp Oq Zb O0 hs h1 hg hn g_st g_pa g_pg g_ba ne_st_pa ne_st_pg ne_st_ba ne_pa_pg ne_pa_ba ne_pg_ba) F0 p10__0 own_pd8 [(.int (0 : Int32)), (.long f), (.long t)] [] (hC e4_68.2.2.2) rfl rfl (by rw [hml]; rfl) (by decide) 0 (Nat.le_of_eq rfl) (by decide) (by decide) (by decide : 0 + 3 ≤ _) (by decide : 0 + 18 ≤ _) fun vv11_ T11_ L11_ X11_ hQ11_ => ?_
  obtain ⟨z'_11_, c'_11_, rfl, N11_q, p11__0, p11__1, p11__2, p11__3, p11__4, p11__5⟩ := hQ11_
  have N11_ := Fr.app N10_ N11_q
  have K11_ := K0.trans p11__0 (allS (Or.inl (List.mem_of_getElem? (i := 0) rfl)) (allS (Or.inl (List.mem_of_getElem? (i := 1) rfl)) (allS (Or.inl (List.mem_of_getElem? (i := 2) rfl)) (allS (Or.inl (List.mem_of_getElem? (i := 3) rfl)) all0))))
  refine jg T11_ mM 123 ll3 [] (fun tT kK => ?_) ?_
  · refine XS.goto X11_.here hx rfl (pc0 := 75) (pc' := 123) rfl (hC d4_75) (by decide) (by decide) ?_
    exact kK
  exact own_rV X11_ hx hlk hre (hC e4_39.2.2) rfl (by decide) (by decide) ⟨z'_11_, c'_11_, rfl, N11_, K11_, p11__1, p11__2, p11__3, p11__4, p11__5⟩
theorem own_ef_rm_add2 (mM : MethodId) (x0 : Addr) (x1 : Int64) : entryFrame mM #[(.ref x0), (.long x1)] 3 = mkF mM 0 #[.val (.ref x0), .val (.long x1), .second] [] := by first | (simp [entryFrame, mkF, argsToLocals, Value.category]; done) | rfl
def Q_rm_add2 (Z : State) (st : Addr) (pa : Addr) (pg : Addr) (ba : Addr) (nb : Addr) (kq : ClassId) (kb : ClassId) (pb : Int32) (en : Int32) (sz : Int64) (ff : Int64) (ft : Int64) (lg : Int64) (lf : Int64) (lt : Int64) (f : Int64) (zs : Int64) (vs : List Value) (h0 : Heap) (n0 : Nat) (vV : Option Value) (hH : Heap) (lA : List Loc) : Prop := ∃ z' : Int64, ∃ c' : Int32, vV = none ∧ Fr n0 lA ∧ (Keep h0 hH [st, pg, ba, pa]) ∧ (jE0 Z hH st) ∧ (jF9 Z hH st (.long z')) ∧ (jF1 Z hH st (.ref pa)) ∧ (jF0 Z hH st (.int c')) ∧ (jF10 Z hH st (.int pb))
set_option maxRecDepth 65536 in
set_option maxHeartbeats 40000000 in
theorem rm_add2 (lL : Launch) (Z : State) (a0 : Array Value) (hw : own_H a0 Z) (ws : List Jvm.Cond) (st : Addr) (pa : Addr) (pg : Addr) (ba : Addr) (nb : Addr) (kq : ClassId) (kb : ClassId) (pb : Int32) (en : Int32) (sz : Int64) (ff : Int64) (ft : Int64) (lg : Int64) (lf : Int64) (lt : Int64) (f : Int64) (zs : Int64) (vs : List Value) (h0 : Heap) (n0 : Nat) (Z0 : n0 ≤ h0.size) (F0 : jE0 Z h0 st) (F1 : jF9 Z h0 st (.long zs)) (F2 : jF1 Z h0 st (.ref pa)) (F3 : jF0 Z h0 st (.int (1 : Int32))) (F4 : jF10 Z h0 st (.int pb)) (G0 : jE1 Z h0 pg) (G1 : jF11 Z h0 pg (.long sz)) (G2 : jF2 Z h0 pg (.long ff)) (G3 : jF4 Z h0 pg (.long ft)) (G4 : jF12 Z h0 pg (.ref ba)) (G5 : jF8 Z h0 pg (.int (0 : Int32))) (G6 : jF7 Z h0 pg (.int en)) (G7 : jF3 Z h0 pg (.int (0 : Int32))) (G8 : jF13 Z h0 pg (.long lg)) (G9 : jF6 Z h0 pg (.long lf)) (G10 : jF5 Z h0 pg (.long lt)) (Vb : Arv Z h0 ba kb .byte (28 : Int32) vs (.int (0 : Int32))) (hl : vs.length = 28) (he : 1 ≤ en.toInt ∧ en.toInt ≤ 7) (Vp : Arv Z h0 pa kq (.object "com/example/portion/portion/server/OffsetSet$Page") (2 : Int32) [(.ref pg), .null] .null) (Oq : Ovr Z kq "com/example/portion/portion/server/OffsetSet$Page") (Zb : Sta Z Z.heap "com/example/portion/portion/server/OffsetSet" "NO_BYTES" "[B" (.ref nb)) (O0 : Old Z n0 h0) (hs : ¬ (sz = (0 : Int64))) (h1 : lt < f) (hg : 1 ≤ (f - lt).toInt ∧ (f - lt).toInt ≤ 16777216) (hn : 1 ≤ ((f + (1 : Int64)) - f).toInt ∧ ((f + (1 : Int64)) - f).toInt ≤ 4096) (g_st : n0 ≤ st) (g_pa : n0 ≤ pa) (g_pg : n0 ≤ pg) (g_ba : n0 ≤ ba) (ne_st_pa : st ≠ pa) (ne_st_pg : st ≠ pg) (ne_st_ba : st ≠ ba) (ne_pa_pg : pa ≠ pg) (ne_pa_ba : pa ≠ ba) (ne_pg_ba : pg ≠ ba) (c1 : ¬ (f < (0 : Int64))) (c2 : f < (f + (1 : Int64))) (c3 : ¬ (f < ff)) (c4 : ¬ ((f + (1 : Int64)) < ff)) (c5 : ¬ (f < lf)) (hz : ¬ (zs = (0 : Int64))) :
    own_Met lL jy19 (Jvm.Cond.code jy19 prog_38_method_8_code 3 none :: ws) jr20 #[(.ref st), (.long f)] Z h0 (Q_rm_add2 Z st pa pg ba nb kq kb pb en sz ff ft lg lf lt f zs vs h0 n0) := by
  refine own_begin (plainFor_of_name own_pn_com_example_portion_portion_server_OffsetSet) (fun mM => own_ef_rm_add2 mM st f) fun pP eE sS mM below meth cC s₁ hx hby hml hZ hown hnm hre hlk X0 e0 => ?_
  have hC := @Jvm.hb _ _ hby
  have N0 := Fr.nil n0
  have K0 := Keep.refl h0 [st, pg, ba, pa]
  refine jg s₁ mM 5 #[vR st, vJ f, vS] [(.long (f + (1 : Int64))), (.long f), (.ref st)] (fun tT kK => ?_) ?_
  · refine XS.aloadN X0.here hx rfl (hC e3_0.1) rfl rfl ?_
    refine XS.lloadN X0.here hx rfl (hC e3_0.2.1) rfl ?_
    refine XS.lloadN X0.here hx rfl (hC e3_0.2.2.1) rfl ?_
    refine XS.lconst X0.here hx rfl (hC e3_0.2.2.2) ?_
    refine XS.ladd X0.here hx rfl (hC e3_4.1) rfl ?_
    exact kK
  refine jv X0 hx hZ (y := jy18) hown (jk hw 25 rfl) (jk hw 26 rfl) (jk hw 28 rfl) (jk hw 27 rfl) (jk hw 29 rfl) (jk hw 7 rfl) (rm_ar2 lL Z a0 hw [] st pa pg ba nb kq kb pb en sz ff ft lg lf lt f (f + (1 : Int64)) zs vs h0 n0 (Nat.le_trans Z0 K0.1) F0 F1 F2 F3 F4 G0 G1 G2 G3 G4 G5 G6 G7 G8 G9 G10 Vb hl he Vp Oq Zb O0 hs h1 hg hn g_st g_pa g_pg g_ba ne_st_pa ne_st_pg ne_st_ba ne_pa_pg ne_pa_ba ne_pg_ba c1 c2 c3 c4 c5 hz) F0 e0 own_pd7 [(.long f), (.long (f + (1 : Int64)))] [] (hC e3_4.2.1) rfl rfl (by rw [hml]; rfl) (by decide) 0 (Nat.le_of_eq rfl) (by decide) (by decide) (by decide : 0 + 3 ≤ _) (by decide : 0 + 18 ≤ _) fun vv1_ T1_ L1_ X1_ hQ1_ => ?_
  obtain ⟨z'_1_, c'_1_, rfl, N1_q, p1__0, p1__1, p1__2, p1__3, p1__4, p1__5⟩ := hQ1_
  have N1_ := Fr.app N0 N1_q
  have K1_ := K0.trans p1__0 (allS (Or.inl (List.mem_of_getElem? (i := 0) rfl)) (allS (Or.inl (List.mem_of_getElem? (i := 1) rfl)) (allS (Or.inl (List.mem_of_getElem? (i := 2) rfl)) (allS (Or.inl (List.mem_of_getElem? (i := 3) rfl)) all0))))
  exact own_rV X1_ hx hlk hre (hC e3_4.2.2) rfl (by decide) (by decide) ⟨z'_1_, c'_1_, rfl, N1_, K1_, p1__1, p1__2, p1__3, p1__4, p1__5⟩
theorem e20_0 : jD20 0 (.aload_n 0, 1) ∧ jD20 1 (.lconst 0, 1) ∧ jD20 2 (.putfield 23, 3) ∧ jD20 5 (.aload_n 0, 1) := by decide +kernel
theorem e20_6 : jD20 6 (.getstatic 12, 3) ∧ jD20 9 (.putfield 16, 3) ∧ jD20 12 (.aload_n 0, 1) ∧ jD20 13 (.iconst 0, 1) := by decide +kernel
theorem e20_14 : jD20 14 (.putfield 109, 3) ∧ jD20 17 (.return_, 1) := by decide +kernel
theorem own_ef_rm_clr (mM : MethodId) (x0 : Addr) : entryFrame mM #[(.ref x0)] 1 = mkF mM 0 #[.val (.ref x0)] [] := by first | (simp [entryFrame, mkF, argsToLocals, Value.category]; done) | rfl
def Q_rm_clr (Z : State) (st : Addr) (np : Addr) (pa : Addr) (zs : Int64) (pc : Int32) (pb : Int32) (h0 : Heap) (n0 : Nat) (vV : Option Value) (hH : Heap) (lA : List Loc) : Prop := vV = none ∧ Fr n0 lA ∧ (Keep h0 hH [st]) ∧ (jE0 Z hH st) ∧ (jF9 Z hH st (.long (0 : Int64))) ∧ (jF1 Z hH st (.ref np)) ∧ (jF0 Z hH st (.int (0 : Int32))) ∧ (jF10 Z hH st (.int pb))
set_option maxRecDepth 65536 in
set_option maxHeartbeats 40000000 in
theorem rm_clr (lL : Launch) (Z : State) (a0 : Array Value) (hw : own_H a0 Z) (ws : List Jvm.Cond) (st : Addr) (np : Addr) (pa : Addr) (zs : Int64) (pc : Int32) (pb : Int32) (h0 : Heap) (n0 : Nat) (Z0 : n0 ≤ h0.size) (F0 : jE0 Z h0 st) (F1 : jF9 Z h0 st (.long zs)) (F2 : jF1 Z h0 st (.ref pa)) (F3 : jF0 Z h0 st (.int pc)) (F4 : jF10 Z h0 st (.int pb)) (Zp : Sta Z Z.heap "com/example/portion/portion/server/OffsetSet" "NO_PAGES" "[Lcom/example/portion/portion/server/OffsetSet$Page;" (.ref np)) (O0 : Old Z n0 h0) (g_st : n0 ≤ st) :
    own_Met lL jy20 (Jvm.Cond.code jy20 prog_38_method_13_code 1 none :: ws) jr0 #[(.ref st)] Z h0 (Q_rm_clr Z st np pa zs pc pb h0 n0) := by
  refine own_begin (plainFor_of_name own_pn_com_example_portion_portion_server_OffsetSet) (fun mM => own_ef_rm_clr mM st) fun pP eE sS mM below meth cC s₁ hx hby hml hZ hown hnm hre hlk X0 e0 => ?_
  have hC := @Jvm.hb _ _ hby
  have N0 := Fr.nil n0
  have K0 := Keep.refl h0 [st]
  refine jg s₁ mM 2 #[vR st] [(.long (0 : Int64)), (.ref st)] (fun tT kK => ?_) ?_
  · refine XS.aloadN X0.here hx rfl (hC e20_0.1) rfl rfl ?_
    refine XS.lconst X0.here hx rfl (hC e20_0.2.1) ?_
    exact kK
  refine jq X0 hx hZ hown (jk hw 43 rfl) e0 F1 F0 (jk hw 44 rfl) (jk hw 6 rfl) (ty := .long) (by decide) rfl rfl (hC e20_0.2.2.1) K0 N0 (Or.inl (List.mem_of_getElem? (i := 0) rfl)) g_st fun T1_ h1_ X1_ e1_ W1_ Fw1_ K1_ N1_ => ?_
  have fc2_ := F0.wr W1_
  have fc3_ := F2.other W1_ (Or.inr (js0 hw).symm)
  have fc4_ := F3.other W1_ (Or.inr (js22 hw).symm)
  have fc5_ := F4.other W1_ (Or.inr (js3 hw).symm)
  have fc6_ := O0.wr W1_ g_st
  refine jg T1_ mM 6 #[vR st] [(.ref st)] (fun tT kK => ?_) ?_
  · refine XS.aloadN X1_.here hx rfl (hC e20_0.2.2.2) rfl rfl ?_
    exact kK
  obtain ⟨T7_, X7_, e7_, st7_⟩ := getS2 X1_ hx hZ hown (host := "") (Or.inl (jk hw 14 rfl)) Via.refl e1_ (own_StaKeep fc6_ Zp) (g := (mkF mM 6 #[vR st] [(.ref st)])) rfl (hC e20_6.1)
  refine own_fin st7_ ?_
  refine jq X7_ hx hZ hown (jk hw 16 rfl) e7_ fc3_ fc2_ (jk hw 17 rfl) (jk hw 6 rfl) (ty := (.array (.object "com/example/portion/portion/server/OffsetSet$Page"))) (by decide) rfl rfl (hC e20_6.2.1) K1_ N1_ (Or.inl (List.mem_of_getElem? (i := 0) rfl)) g_st fun T8_ h8_ X8_ e8_ W8_ Fw8_ K8_ N8_ => ?_
  have fc9_ := fc2_.wr W8_
  have fc10_ := Fw1_.other W8_ (Or.inr (js0 hw))
  have fc11_ := fc4_.other W8_ (Or.inr (js1 hw))
  have fc12_ := fc5_.other W8_ (Or.inr (js2 hw))
  refine jg T8_ mM 14 #[vR st] [(.int (0 : Int32)), (.ref st)] (fun tT kK => ?_) ?_
  · refine XS.aloadN X8_.here hx rfl (hC e20_6.2.2.1) rfl rfl ?_
    refine XS.iconst X8_.here hx rfl (hC e20_6.2.2.2) ?_
    exact kK
  refine jq X8_ hx hZ hown (jk hw 37 rfl) e8_ fc11_ fc9_ (jk hw 38 rfl) (jk hw 6 rfl) (ty := .int) (by decide) rfl rfl (hC e20_14.1) K8_ N8_ (Or.inl (List.mem_of_getElem? (i := 0) rfl)) g_st fun T14_ h14_ X14_ e14_ W14_ Fw14_ K14_ N14_ => ?_
  have fc15_ := fc9_.wr W14_
  have fc16_ := fc10_.other W14_ (Or.inr (js22 hw))
  have fc17_ := Fw8_.other W14_ (Or.inr (js1 hw).symm)
  have fc18_ := fc12_.other W14_ (Or.inr (js4 hw).symm)
  exact own_rV X14_ hx hlk hre (hC e20_14.2) e14_ (by decide) (by decide) ⟨rfl, N14_, K14_, fc15_, fc16_, fc17_, Fw14_, fc18_⟩
theorem e21_0 : jD21 0 (.aload_n 0, 1) ∧ jD21 1 (.getfield 23, 3) ∧ jD21 4 (.lconst 0, 1) ∧ jD21 5 (.lcmp, 1) := by decide +kernel
theorem e21_6 : jD21 6 (.ifCond .ne 7, 3) ∧ jD21 9 (.iconst 1, 1) ∧ jD21 10 (.goto 4, 3) ∧ jD21 14 (.ireturn, 1) := by decide +kernel
theorem own_ef_rm_emp (mM : MethodId) (x0 : Addr) : entryFrame mM #[(.ref x0)] 1 = mkF mM 0 #[.val (.ref x0)] [] := by first | (simp [entryFrame, mkF, argsToLocals, Value.category]; done) | rfl
def Q_rm_emp (Z : State) (st : Addr) (h0 : Heap) (n0 : Nat) (vV : Option Value) (hH : Heap) (lA : List Loc) : Prop := vV = some (.int (1 : Int32)) ∧ Fr n0 lA ∧ (hH = h0)
set_option maxRecDepth 65536 in
set_option maxHeartbeats 40000000 in
theorem rm_emp (lL : Launch) (Z : State) (a0 : Array Value) (hw : own_H a0 Z) (ws : List Jvm.Cond) (st : Addr) (h0 : Heap) (n0 : Nat) (Z0 : n0 ≤ h0.size) (Fs : jF9 Z h0 st (.long (0 : Int64))) :
    own_Met lL jy21 (Jvm.Cond.code jy21 prog_38_method_3_code 1 (some .boolean) :: ws) jr0 #[(.ref st)] Z h0 (Q_rm_emp Z st h0 n0) := by
  refine own_begin (plainFor_of_name own_pn_com_example_portion_portion_server_OffsetSet) (fun mM => own_ef_rm_emp mM st) fun pP eE sS mM below meth cC s₁ hx hby hml hZ hown hnm hre hlk X0 e0 => ?_
  have hC := @Jvm.hb _ _ hby
  have N0 := Fr.nil n0
  have K0 := Keep.refl h0 ([] : List Addr)
  refine jg s₁ mM 1 #[vR st] [(.ref st)] (fun tT kK => ?_) ?_
  · refine XS.aloadN X0.here hx rfl (hC e21_0.1) rfl rfl ?_
    exact kK
  refine jf X0 hx hZ hown (jk hw 43 rfl) e0 Fs (hC e21_0.2.1) fun T1_ X1_ e1_ => ?_
  refine jg T1_ mM 14 #[vR st] [(.int (1 : Int32))] (fun tT kK => ?_) ?_
  · refine XS.lconst X1_.here hx rfl (hC e21_0.2.2.1) ?_
    refine XS.lcmp X1_.here hx rfl (hC e21_0.2.2.2) rfl ?_
    refine XS.ifNo X1_.here hx rfl (hC e21_6.1) rfl ((if0 _ _).trans (teq ((lw_eq (0 : Int64) (0 : Int64)).mpr ((by decide) : (0 : Int64) = (0 : Int64)))).2) ?_
    refine XS.iconst X1_.here hx rfl (hC e21_6.2.1) ?_
    refine XS.goto X1_.here hx rfl (pc0 := 10) (pc' := 14) rfl (hC e21_6.2.2.1) (by decide) (by decide) ?_
    exact kK
  exact own_rL X1_ hx hlk hre (by simp) (hC e21_6.2.2.2) (w := (.int (1 : Int32))) rfl e1_ (by decide) (by decide) ⟨rfl, N0, rfl⟩
theorem e22_0 : jD22 0 (.aload_n 0, 1) ∧ jD22 1 (.lload_n 1, 1) ∧ jD22 2 (.invokevirtual 51, 3) ∧ jD22 5 (.istore_n 3, 1) := by decide +kernel
theorem e22_6 : jD22 6 (.iload_n 3, 1) ∧ jD22 7 (.ifCond .lt 20, 3) ∧ jD22 27 (.iconst 0, 1) ∧ jD22 28 (.ireturn, 1) := by decide +kernel
theorem own_ef_rm_co0 (mM : MethodId) (x0 : Addr) (x1 : Int64) : entryFrame mM #[(.ref x0), (.long x1)] 4 = mkF mM 0 #[.val (.ref x0), .val (.long x1), .second, .unset] [] := by first | (simp [entryFrame, mkF, argsToLocals, Value.category]; done) | rfl
def Q_rm_co0 (Z : State) (st : Addr) (o : Int64) (h0 : Heap) (n0 : Nat) (vV : Option Value) (hH : Heap) (lA : List Loc) : Prop := vV = some (.int (0 : Int32)) ∧ Fr n0 lA ∧ (hH = h0)
set_option maxRecDepth 65536 in
set_option maxHeartbeats 40000000 in
theorem rm_co0 (lL : Launch) (Z : State) (a0 : Array Value) (hw : own_H a0 Z) (ws : List Jvm.Cond) (st : Addr) (o : Int64) (h0 : Heap) (n0 : Nat) (Z0 : n0 ≤ h0.size) (Es : jE0 Z h0 st) (Fc : jF0 Z h0 st (.int (0 : Int32))) :
    own_Met lL jy22 (Jvm.Cond.code jy22 prog_38_method_7_code 4 (some .boolean) :: ws) jr21 #[(.ref st), (.long o)] Z h0 (Q_rm_co0 Z st o h0 n0) := by
  refine own_begin (plainFor_of_name own_pn_com_example_portion_portion_server_OffsetSet) (fun mM => own_ef_rm_co0 mM st o) fun pP eE sS mM below meth cC s₁ hx hby hml hZ hown hnm hre hlk X0 e0 => ?_
  have hC := @Jvm.hb _ _ hby
  have N0 := Fr.nil n0
  have K0 := Keep.refl h0 ([] : List Addr)
  let ll1 : Array Slot := #[vR st, vJ o, vS, vU]
  refine jg s₁ mM 2 ll1 [(.long o), (.ref st)] (fun tT kK => ?_) ?_
  · refine XS.aloadN X0.here hx rfl (hC e22_0.1) rfl rfl ?_
    refine XS.lloadN X0.here hx rfl (hC e22_0.2.1) rfl ?_
    exact kK
  refine jw X0 hx hZ (y := jy2) hown (jk hw 33 rfl) (jk hw 34 rfl) (own_selP (y := jy2) hZ (jk hw 6 rfl) (jk hw 35 rfl) (jk hw 34 rfl) (by decide)) (jk hw 35 rfl) (jk hw 36 rfl) (jk hw 7 rfl) (rm_pa0 lL Z a0 hw [] st o h0 n0 (Nat.le_trans Z0 K0.1) Fc) Es e0 own_pd9 [(.long o)] [] (hC e22_0.2.2.1) rfl rfl (by rw [hml]; rfl) (by decide) 0 (Nat.le_of_eq rfl) (by decide) (by decide) (by decide : 0 + 0 ≤ _) (by decide : 0 + 0 ≤ _) fun vv1_ T1_ L1_ X1_ hQ1_ => ?_
  obtain ⟨rfl, N1_q, p1__0⟩ := hQ1_
  have N1_ := Fr.app N0 N1_q
  let ll2 : Array Slot := #[vR st, vJ o, vS, vI (-1)]
  refine jg T1_ mM 28 ll2 [(.int (0 : Int32))] (fun tT kK => ?_) ?_
  · refine XS.istoreN X1_.here hx rfl (hC e22_0.2.2.2) rfl (l' := ll2) rfl ?_
    refine XS.iloadN X1_.here hx rfl (hC e22_6.1) rfl ?_
    refine XS.ifYes X1_.here hx rfl (pc0 := 7) (pc' := 27) rfl (hC e22_6.2.1) rfl ((if0 _ _).trans (tlt ((by decide) : (-1 : Int32) < (0 : Int32))).1) (by decide) (by decide) ?_
    refine XS.iconst X1_.here hx rfl (hC e22_6.2.2.1) ?_
    exact kK
  exact own_rL X1_ hx hlk hre (by simp) (hC e22_6.2.2.2) (w := (.int (0 : Int32))) rfl p1__0 (by decide) (by decide) ⟨rfl, N1_, rfl⟩
theorem e23_0 : jD23 0 (.aload_n 0, 1) ∧ jD23 1 (.getfield 23, 3) ∧ jD23 4 (.lreturn, 1) := by decide +kernel
theorem own_ef_rm_sz (mM : MethodId) (x0 : Addr) : entryFrame mM #[(.ref x0)] 1 = mkF mM 0 #[.val (.ref x0)] [] := by first | (simp [entryFrame, mkF, argsToLocals, Value.category]; done) | rfl
def Q_rm_sz (Z : State) (st : Addr) (z : Int64) (h0 : Heap) (n0 : Nat) (vV : Option Value) (hH : Heap) (lA : List Loc) : Prop := vV = some (.long z) ∧ Fr n0 lA ∧ (hH = h0)
set_option maxRecDepth 65536 in
set_option maxHeartbeats 40000000 in
theorem rm_sz (lL : Launch) (Z : State) (a0 : Array Value) (hw : own_H a0 Z) (ws : List Jvm.Cond) (st : Addr) (z : Int64) (h0 : Heap) (n0 : Nat) (Z0 : n0 ≤ h0.size) (Fs : jF9 Z h0 st (.long z)) :
    own_Met lL jy23 (Jvm.Cond.code jy23 prog_38_method_4_code 1 (some .long) :: ws) jr0 #[(.ref st)] Z h0 (Q_rm_sz Z st z h0 n0) := by
  refine own_begin (plainFor_of_name own_pn_com_example_portion_portion_server_OffsetSet) (fun mM => own_ef_rm_sz mM st) fun pP eE sS mM below meth cC s₁ hx hby hml hZ hown hnm hre hlk X0 e0 => ?_
  have hC := @Jvm.hb _ _ hby
  have N0 := Fr.nil n0
  have K0 := Keep.refl h0 ([] : List Addr)
  refine jg s₁ mM 1 #[vR st] [(.ref st)] (fun tT kK => ?_) ?_
  · refine XS.aloadN X0.here hx rfl (hC e23_0.1) rfl rfl ?_
    exact kK
  refine jf X0 hx hZ hown (jk hw 43 rfl) e0 Fs (hC e23_0.2.1) fun T1_ X1_ e1_ => ?_
  exact own_rr X1_ hx hlk hre rfl (Or.inr (Or.inl ⟨rfl, rfl, _, rfl⟩)) (hC e23_0.2.2) e1_ (by decide) (by decide) ⟨rfl, N0, rfl⟩
theorem e24_0 : jD24 0 (.aload_n 0, 1) ∧ jD24 1 (.getfield 23, 3) ∧ jD24 4 (.lconst 0, 1) ∧ jD24 5 (.lcmp, 1) := by decide +kernel
theorem e24_6 : jD24 6 (.ifCond .ne 13, 3) ∧ jD24 19 (.aload_n 0, 1) ∧ jD24 20 (.getfield 16, 3) ∧ jD24 23 (.iconst 0, 1) := by decide +kernel
theorem e24_24 : jD24 24 (.aaload, 1) ∧ jD24 25 (.getfield 34, 3) ∧ jD24 28 (.lreturn, 1) := by decide +kernel
theorem own_ef_rm_fi (mM : MethodId) (x0 : Addr) : entryFrame mM #[(.ref x0)] 1 = mkF mM 0 #[.val (.ref x0)] [] := by first | (simp [entryFrame, mkF, argsToLocals, Value.category]; done) | rfl
def Q_rm_fi (Z : State) (st : Addr) (pa : Addr) (pg : Addr) (kq : ClassId) (ff : Int64) (h0 : Heap) (n0 : Nat) (vV : Option Value) (hH : Heap) (lA : List Loc) : Prop := vV = some (.long ff) ∧ Fr n0 lA ∧ (hH = h0)
set_option maxRecDepth 65536 in
set_option maxHeartbeats 40000000 in
theorem rm_fi (lL : Launch) (Z : State) (a0 : Array Value) (hw : own_H a0 Z) (ws : List Jvm.Cond) (st : Addr) (pa : Addr) (pg : Addr) (kq : ClassId) (ff : Int64) (h0 : Heap) (n0 : Nat) (Z0 : n0 ≤ h0.size) (Fs : jF9 Z h0 st (.long (1 : Int64))) (Fp : jF1 Z h0 st (.ref pa)) (Vp : Arv Z h0 pa kq (.object "com/example/portion/portion/server/OffsetSet$Page") (2 : Int32) [(.ref pg), .null] .null) (Ff : jF2 Z h0 pg (.long ff)) :
    own_Met lL jy24 (Jvm.Cond.code jy24 prog_38_method_5_code 1 (some .long) :: ws) jr0 #[(.ref st)] Z h0 (Q_rm_fi Z st pa pg kq ff h0 n0) := by
  refine own_begin (plainFor_of_name own_pn_com_example_portion_portion_server_OffsetSet) (fun mM => own_ef_rm_fi mM st) fun pP eE sS mM below meth cC s₁ hx hby hml hZ hown hnm hre hlk X0 e0 => ?_
  have hC := @Jvm.hb _ _ hby
  have N0 := Fr.nil n0
  have K0 := Keep.refl h0 ([] : List Addr)
  refine jg s₁ mM 1 #[vR st] [(.ref st)] (fun tT kK => ?_) ?_
  · refine XS.aloadN X0.here hx rfl (hC e24_0.1) rfl rfl ?_
    exact kK
  refine jf X0 hx hZ hown (jk hw 43 rfl) e0 Fs (hC e24_0.2.1) fun T1_ X1_ e1_ => ?_
  refine jg T1_ mM 20 #[vR st] [(.ref st)] (fun tT kK => ?_) ?_
  · refine XS.lconst X1_.here hx rfl (hC e24_0.2.2.1) ?_
    refine XS.lcmp X1_.here hx rfl (hC e24_0.2.2.2) rfl ?_
    refine XS.ifYes X1_.here hx rfl (pc0 := 6) (pc' := 19) rfl (hC e24_6.1) rfl ((if0 _ _).trans (feq (mt (lw_eq (1 : Int64) (0 : Int64)).mp ((by decide) : ¬ ((1 : Int64) = (0 : Int64))))).2) (by decide) (by decide) ?_
    refine XS.aloadN X1_.here hx rfl (hC e24_6.2.1) rfl rfl ?_
    exact kK
  refine jf X1_ hx hZ hown (jk hw 16 rfl) e1_ Fp (hC e24_6.2.2.1) fun T2_ X2_ e2_ => ?_
  refine jg T2_ mM 24 #[vR st] [(.int (0 : Int32)), (.ref pa)] (fun tT kK => ?_) ?_
  · refine XS.iconst X2_.here hx rfl (hC e24_6.2.2.2) ?_
    exact kK
  obtain ⟨cl3_, Ar3_, qk3_, Sz3_, Nn3_, Hh3_, Gg3_⟩ := id Vp
  have hin4_ : ¬ ((0 : Int32) < 0 ∨ cl3_.slots.size ≤ ((0 : Int32)).toNatClampNeg) := inb_of Sz3_ ⟨by decide, by decide⟩
  have hat4_ : cl3_.slots[((0 : Int32)).toNatClampNeg]? = some (.ref pg) := Hh3_.at hin4_ rfl
  refine jg T2_ mM 25 #[vR st] [(.ref pg)] (fun tT kK => ?_) ?_
  · refine X2_.aaload hx (j := (0 : Int32)) (v := (.ref pg)) (own_rw e2_ Ar3_.1) (State.isArrayOf_alike hZ.alike Ar3_.2.1) rfl Ar3_.2.2 hin4_ hat4_ (g := (mkF mM 24 #[vR st] [(.int (0 : Int32)), (.ref pa)])) rfl rfl (hC e24_24.1) _ ?_
    exact kK
  obtain ⟨T5_, X5_, e5_, st5_⟩ := own_getRef X2_ hx hZ hown (jk hw 94 rfl) Via.refl e2_ Ff (g := (mkF mM 25 #[vR st] [(.ref pg)])) rfl rfl (hC e24_24.2.1)
  refine own_fin st5_ ?_
  exact own_rr X5_ hx hlk hre rfl (Or.inr (Or.inl ⟨rfl, rfl, _, rfl⟩)) (hC e24_24.2.2) e5_ (by decide) (by decide) ⟨rfl, N0, rfl⟩
theorem e28_0 : jD25 0 (.aload_n 0, 1) ∧ jD25 1 (.aload_n 1, 1) ∧ jD25 2 (.putfield 1, 3) := by decide +kernel
theorem js51 {Z : State} {a0 : Array Value} (hw : own_H a0 Z) : jQ14 Z ≠ jQ15 Z := slot_ne (Or.inl (jk hw 190 rfl)) (Or.inr (jk hw 186 rfl)) (by decide) (t := .long) (t' := (.object "com/example/portion/portion/server/OffsetSet$Page")) (by decide) (by decide)
theorem js52 {Z : State} {a0 : Array Value} (hw : own_H a0 Z) : jQ16 Z ≠ jQ15 Z := slot_ne (Or.inl (jk hw 193 rfl)) (Or.inr (jk hw 186 rfl)) (by decide) (t := .long) (t' := (.object "com/example/portion/portion/server/OffsetSet$Page")) (by decide) (by decide)
theorem js53 {Z : State} {a0 : Array Value} (hw : own_H a0 Z) : jQ17 Z ≠ jQ15 Z := slot_ne (Or.inl (jk hw 196 rfl)) (Or.inr (jk hw 186 rfl)) (by decide) (t := .int) (t' := (.object "com/example/portion/portion/server/OffsetSet$Page")) (by decide) (by decide)
theorem e28_5 : jD25 5 (.aload_n 0, 1) ∧ jD25 6 (.invokespecial 7, 3) ∧ jD25 9 (.aload_n 0, 1) ∧ jD25 10 (.aload_n 0, 1) := by decide +kernel
theorem e28_11 : jD25 11 (.getfield 1, 3) ∧ jD25 14 (.getfield 13, 3) ∧ jD25 17 (.putfield 19, 3) := by decide +kernel
theorem js54 {Z : State} {a0 : Array Value} (hw : own_H a0 Z) : jQ16 Z ≠ jQ14 Z := slot_ne (Or.inl (jk hw 193 rfl)) (Or.inl (jk hw 190 rfl)) (by decide) (t := .long) (t' := .long) (by decide) (by decide)
theorem js55 {Z : State} {a0 : Array Value} (hw : own_H a0 Z) : jQ17 Z ≠ jQ14 Z := slot_ne (Or.inl (jk hw 196 rfl)) (Or.inl (jk hw 190 rfl)) (by decide) (t := .int) (t' := .long) (by decide) (by decide)
theorem e28_20 : jD25 20 (.aload_n 0, 1) ∧ jD25 21 (.aload_n 0, 1) ∧ jD25 22 (.getfield 1, 3) ∧ jD25 25 (.getfield 22, 3) := by decide +kernel
theorem d28_28 : jD25 28 (.putfield 25, 3) := by decide +kernel
theorem js56 {Z : State} {a0 : Array Value} (hw : own_H a0 Z) : jQ17 Z ≠ jQ16 Z := slot_ne (Or.inl (jk hw 196 rfl)) (Or.inl (jk hw 193 rfl)) (by decide) (t := .int) (t' := .long) (by decide) (by decide)
theorem e28_31 : jD25 31 (.aload_n 0, 1) ∧ jD25 32 (.aload_n 0, 1) ∧ jD25 33 (.getfield 1, 3) ∧ jD25 36 (.getfield 28, 3) := by decide +kernel
theorem e28_39 : jD25 39 (.putfield 32, 3) ∧ jD25 42 (.return_, 1) := by decide +kernel
theorem own_pn_com_example_portion_portion_server_OffsetSet_Page_Runs : plainName "com/example/portion/portion/server/OffsetSet$Page$Runs" = true := by first | (simp [plainName, overriddenIn]; done) | decide +kernel
theorem own_ef_rm_rn (mM : MethodId) (x0 : Addr) (x1 : Addr) : entryFrame mM #[(.ref x0), (.ref x1)] 2 = mkF mM 0 #[.val (.ref x0), .val (.ref x1)] [] := by first | (simp [entryFrame, mkF, argsToLocals, Value.category]; done) | rfl
def Q_rm_rn (Z : State) (a : Addr) (pg : Addr) (ff : Int64) (ft : Int64) (h0 : Heap) (n0 : Nat) (vV : Option Value) (hH : Heap) (lA : List Loc) : Prop := vV = none ∧ Fr n0 lA ∧ (Keep h0 hH [a]) ∧ (jE2 Z hH a) ∧ (jF14 Z hH a (.ref pg)) ∧ (jF15 Z hH a (.long ff)) ∧ (jF16 Z hH a (.long ft)) ∧ (jF17 Z hH a (.int (0 : Int32)))
set_option maxRecDepth 65536 in
set_option maxHeartbeats 40000000 in
theorem rm_rn (lL : Launch) (Z : State) (a0 : Array Value) (hw : own_H a0 Z) (ws : List Jvm.Cond) (a : Addr) (pg : Addr) (ff : Int64) (ft : Int64) (h0 : Heap) (n0 : Nat) (Z0 : n0 ≤ h0.size) (F0 : jE2 Z h0 a) (F1 : jF14 Z h0 a .null) (F2 : jF15 Z h0 a (.long (0 : Int64))) (F3 : jF16 Z h0 a (.long (0 : Int64))) (F4 : jF17 Z h0 a (.int (0 : Int32))) (Gf : jF2 Z h0 pg (.long ff)) (Gt : jF4 Z h0 pg (.long ft)) (Gs : jF8 Z h0 pg (.int (0 : Int32))) (g_a : n0 ≤ a) (ne_pg_a : pg ≠ a) :
    own_Met lL jy25 (Jvm.Cond.code jy25 prog_40_method_1_code 2 none :: ws) jr1 #[(.ref a), (.ref pg)] Z h0 (Q_rm_rn Z a pg ff ft h0 n0) := by
  refine own_begin (plainFor_of_name own_pn_com_example_portion_portion_server_OffsetSet_Page_Runs) (fun mM => own_ef_rm_rn mM a pg) fun pP eE sS mM below meth cC s₁ hx hby hml hZ hown hnm hre hlk X0 e0 => ?_
  have hC := @Jvm.hb _ _ hby
  have N0 := Fr.nil n0
  have K0 := Keep.refl h0 [a]
  refine jg s₁ mM 2 #[vR a, vR pg] [(.ref pg), (.ref a)] (fun tT kK => ?_) ?_
  · refine XS.aloadN X0.here hx rfl (hC e28_0.1) rfl rfl ?_
    refine XS.aloadN X0.here hx rfl (hC e28_0.2.1) rfl rfl ?_
    exact kK
  obtain ⟨T1_, h1_, X1_, e1_, W1_, st1_⟩ := putF X0 hx hZ hown (host := "") (Or.inl (jk hw 185 rfl)) Via.refl e0 F1 F0 (Or.inr ⟨(jk hw 186 rfl), rfl, hnm⟩) (jk hw 180 rfl) (ty := (.object "com/example/portion/portion/server/OffsetSet$Page")) (by decide) rfl rfl (g := (mkF mM 2 #[vR a, vR pg] [(.ref pg), (.ref a)])) rfl rfl (hC e28_0.2.2)
  have Fw1_ := F1.same W1_
  have fc2_ := F0.wr W1_
  have fc3_ := F2.other W1_ (Or.inr (js51 hw))
  have fc4_ := F3.other W1_ (Or.inr (js52 hw))
  have fc5_ := F4.other W1_ (Or.inr (js53 hw))
  have fc6_ := Gf.other W1_ (Or.inl ne_pg_a)
  have fc7_ := Gt.other W1_ (Or.inl ne_pg_a)
  have fc8_ := Gs.other W1_ (Or.inl ne_pg_a)
  have K1_ := K0.wr W1_ (Or.inl (List.mem_of_getElem? (i := 0) rfl))
  have N1_ := Fr.snoc X1_ N0 g_a
  refine own_fin st1_ ?_
  refine jg T1_ mM 6 #[vR a, vR pg] [(.ref a)] (fun tT kK => ?_) ?_
  · refine XS.aloadN X1_.here hx rfl (hC e28_5.1) rfl rfl ?_
    exact kK
  obtain ⟨T9_, X9_, e9_, st9_⟩ := initO X1_ hx hZ hown (jk hw 187 rfl) (jk hw 12 rfl) (jk hw 13 rfl) e1_ (g := (mkF mM 6 #[vR a, vR pg] [(.ref a)])) rfl (by rw [hml]; rfl) rfl (hC e28_5.2.1) (by decide) (W := 0) (by show 2 * 0 + _ ≤ _; exact Nat.le_of_eq rfl) (by decide)
  refine own_fin st9_ ?_
  refine jg T9_ mM 11 #[vR a, vR pg] [(.ref a), (.ref a)] (fun tT kK => ?_) ?_
  · refine XS.aloadN X9_.here hx rfl (hC e28_5.2.2.1) rfl rfl ?_
    refine XS.aloadN X9_.here hx rfl (hC e28_5.2.2.2) rfl rfl ?_
    exact kK
  refine jf X9_ hx hZ hown (jk hw 185 rfl) e9_ Fw1_ (hC e28_11.1) fun T10_ X10_ e10_ => ?_
  refine jn X10_ hx hZ hown (jk hw 188 rfl) e10_ fc6_ (hC e28_11.2.1) fun T11_ X11_ e11_ => ?_
  refine jq X11_ hx hZ hown (jk hw 189 rfl) e11_ fc3_ fc2_ (jk hw 190 rfl) (jk hw 180 rfl) (ty := .long) (by decide) rfl rfl (hC e28_11.2.2) K1_ N1_ (Or.inl (List.mem_of_getElem? (i := 0) rfl)) g_a fun T12_ h12_ X12_ e12_ W12_ Fw12_ K12_ N12_ => ?_
  have fc13_ := fc2_.wr W12_
  have fc14_ := Fw1_.other W12_ (Or.inr (js51 hw).symm)
  have fc15_ := fc4_.other W12_ (Or.inr (js54 hw))
  have fc16_ := fc5_.other W12_ (Or.inr (js55 hw))
  have fc18_ := fc7_.other W12_ (Or.inl ne_pg_a)
  have fc19_ := fc8_.other W12_ (Or.inl ne_pg_a)
  refine jg T12_ mM 22 #[vR a, vR pg] [(.ref a), (.ref a)] (fun tT kK => ?_) ?_
  · refine XS.aloadN X12_.here hx rfl (hC e28_20.1) rfl rfl ?_
    refine XS.aloadN X12_.here hx rfl (hC e28_20.2.1) rfl rfl ?_
    exact kK
  refine jf X12_ hx hZ hown (jk hw 185 rfl) e12_ fc14_ (hC e28_20.2.2.1) fun T20_ X20_ e20_ => ?_
  refine jn X20_ hx hZ hown (jk hw 191 rfl) e20_ fc18_ (hC e28_20.2.2.2) fun T21_ X21_ e21_ => ?_
  refine jq X21_ hx hZ hown (jk hw 192 rfl) e21_ fc15_ fc13_ (jk hw 193 rfl) (jk hw 180 rfl) (ty := .long) (by decide) rfl rfl (hC d28_28) K12_ N12_ (Or.inl (List.mem_of_getElem? (i := 0) rfl)) g_a fun T22_ h22_ X22_ e22_ W22_ Fw22_ K22_ N22_ => ?_
  have fc23_ := fc13_.wr W22_
  have fc24_ := fc14_.other W22_ (Or.inr (js52 hw).symm)
  have fc25_ := Fw12_.other W22_ (Or.inr (js54 hw).symm)
  have fc26_ := fc16_.other W22_ (Or.inr (js56 hw))
  have fc29_ := fc19_.other W22_ (Or.inl ne_pg_a)
  refine jg T22_ mM 33 #[vR a, vR pg] [(.ref a), (.ref a)] (fun tT kK => ?_) ?_
  · refine XS.aloadN X22_.here hx rfl (hC e28_31.1) rfl rfl ?_
    refine XS.aloadN X22_.here hx rfl (hC e28_31.2.1) rfl rfl ?_
    exact kK
  refine jf X22_ hx hZ hown (jk hw 185 rfl) e22_ fc24_ (hC e28_31.2.2.1) fun T30_ X30_ e30_ => ?_
  refine jn X30_ hx hZ hown (jk hw 194 rfl) e30_ fc29_ (hC e28_31.2.2.2) fun T31_ X31_ e31_ => ?_
  refine jq X31_ hx hZ hown (jk hw 195 rfl) e31_ fc26_ fc23_ (jk hw 196 rfl) (jk hw 180 rfl) (ty := .int) (by decide) rfl rfl (hC e28_39.1) K22_ N22_ (Or.inl (List.mem_of_getElem? (i := 0) rfl)) g_a fun T32_ h32_ X32_ e32_ W32_ Fw32_ K32_ N32_ => ?_
  have fc33_ := fc23_.wr W32_
  have fc34_ := fc24_.other W32_ (Or.inr (js53 hw).symm)
  have fc35_ := fc25_.other W32_ (Or.inr (js55 hw).symm)
  have fc36_ := Fw22_.other W32_ (Or.inr (js56 hw).symm)
  exact own_rV X32_ hx hlk hre (hC e28_39.2) e32_ (by decide) (by decide) ⟨rfl, N32_, K32_, fc33_, fc34_, fc35_, fc36_, Fw32_⟩
theorem e25_0 : jD26 0 (.iconst 0, 1) ∧ jD26 1 (.istore_n 3, 1) ∧ jD26 2 (.aload_n 0, 1) ∧ jD26 3 (.getfield 45, 3) := by decide +kernel
theorem e25_6 : jD26 6 (.lconst 0, 1) ∧ jD26 7 (.lcmp, 1) ∧ jD26 8 (.ifCond .le 85, 3) ∧ jD26 11 (.lload_n 1, 1) := by decide +kernel
theorem e25_12 : jD26 12 (.aload_n 0, 1) ∧ jD26 13 (.getfield 22, 3) ∧ jD26 16 (.lcmp, 1) ∧ jD26 17 (.ifCond .lt 76, 3) := by decide +kernel
theorem e25_20 : jD26 20 (.lload_n 1, 1) ∧ jD26 21 (.aload_n 0, 1) ∧ jD26 22 (.invokevirtual 41, 3) ∧ jD26 25 (.lcmp, 1) := by decide +kernel
theorem e25_26 : jD26 26 (.ifCond .ge 67, 3) ∧ jD26 29 (.new 61, 3) ∧ jD26 32 (.dup, 1) ∧ jD26 33 (.aload_n 0, 1) := by decide +kernel
theorem d25_34 : jD26 34 (.invokespecial 63, 3) := by decide +kernel
theorem own_pd11 : parseMethodDescriptor "(Lcom/example/portion/portion/server/OffsetSet$Page;)V" = some ⟨[(.object "com/example/portion/portion/server/OffsetSet$Page")], none⟩ := by decide +kernel
theorem e25_37 : jD26 37 (.astore 4, 2) ∧ jD26 39 (.iconst 1, 1) ∧ jD26 40 (.istore 5, 2) ∧ jD26 42 (.iload 5, 2) := by decide +kernel
theorem e25_44 : jD26 44 (.ifCond .eq 23, 3) ∧ jD26 47 (.lload_n 1, 1) ∧ jD26 48 (.aload 4, 2) ∧ jD26 50 (.getfield 66, 3) := by decide +kernel
theorem e25_53 : jD26 53 (.lcmp, 1) ∧ jD26 54 (.ifCond .lt 13, 3) ∧ jD26 67 (.lload_n 1, 1) ∧ jD26 68 (.aload 4, 2) := by decide +kernel
theorem e25_70 : jD26 70 (.getfield 69, 3) ∧ jD26 73 (.lcmp, 1) ∧ jD26 74 (.ifCond .lt 17, 3) ∧ jD26 77 (.lload_n 1, 1) := by decide +kernel
theorem e25_78 : jD26 78 (.aload 4, 2) ∧ jD26 80 (.getfield 66, 3) ∧ jD26 83 (.lcmp, 1) ∧ jD26 84 (.ifCond .ge 7, 3) := by decide +kernel
theorem e25_87 : jD26 87 (.iconst 1, 1) ∧ jD26 88 (.goto 4, 3) ∧ jD26 92 (.istore_n 3, 1) ∧ jD26 93 (.iload_n 3, 1) := by decide +kernel
theorem d25_94 : jD26 94 (.ireturn, 1) := by decide +kernel
theorem own_ef_rm_pc (mM : MethodId) (x0 : Addr) (x1 : Int64) : entryFrame mM #[(.ref x0), (.long x1)] 6 = mkF mM 0 #[.val (.ref x0), .val (.long x1), .second, .unset, .unset, .unset] [] := by first | (simp [entryFrame, mkF, argsToLocals, Value.category]; done) | rfl
def Q_rm_pc (Z : State) (pg : Addr) (nb : Addr) (o : Int64) (ff : Int64) (ft : Int64) (h0 : Heap) (n0 : Nat) (vV : Option Value) (hH : Heap) (lA : List Loc) : Prop := vV = some (.int (if o < ft then (1 : Int32) else (0 : Int32))) ∧ Fr n0 lA ∧ (Keep h0 hH [])
set_option maxRecDepth 65536 in
set_option maxHeartbeats 40000000 in
theorem rm_pc (lL : Launch) (Z : State) (a0 : Array Value) (hw : own_H a0 Z) (ws : List Jvm.Cond) (pg : Addr) (nb : Addr) (o : Int64) (ff : Int64) (ft : Int64) (h0 : Heap) (n0 : Nat) (Z0 : n0 ≤ h0.size) (F0 : jE1 Z h0 pg) (F1 : jF11 Z h0 pg (.long (1 : Int64))) (F2 : jF2 Z h0 pg (.long ff)) (F3 : jF4 Z h0 pg (.long ft)) (F4 : jF12 Z h0 pg (.ref nb)) (F5 : jF8 Z h0 pg (.int (0 : Int32))) (F6 : jF7 Z h0 pg (.int (0 : Int32))) (F7 : jF3 Z h0 pg (.int (-1 : Int32))) (F8 : jF13 Z h0 pg (.long (0 : Int64))) (F9 : jF6 Z h0 pg (.long (0 : Int64))) (F10 : jF5 Z h0 pg (.long (0 : Int64))) (c1 : ¬ (o < ff)) :
    own_Met lL jy26 (Jvm.Cond.code jy26 prog_39_method_11_code 6 (some .boolean) :: ws) jr22 #[(.ref pg), (.long o)] Z h0 (Q_rm_pc Z pg nb o ff ft h0 n0) := by
  refine own_begin (plainFor_of_name own_pn_com_example_portion_portion_server_OffsetSet_Page) (fun mM => own_ef_rm_pc mM pg o) fun pP eE sS mM below meth cC s₁ hx hby hml hZ hown hnm hre hlk X0 e0 => ?_
  have hC := @Jvm.hb _ _ hby
  have N0 := Fr.nil n0
  have K0 := Keep.refl h0 ([] : List Addr)
  let ll1 : Array Slot := #[vR pg, vJ o, vS, vI 0, vU, vU]
  refine jg s₁ mM 3 ll1 [(.ref pg)] (fun tT kK => ?_) ?_
  · refine XS.iconst X0.here hx rfl (hC e25_0.1) ?_
    refine XS.istoreN X0.here hx rfl (hC e25_0.2.1) rfl (l' := ll1) rfl ?_
    refine XS.aloadN X0.here hx rfl (hC e25_0.2.2.1) rfl rfl ?_
    exact kK
  refine jf X0 hx hZ hown (jk hw 90 rfl) e0 F1 (hC e25_0.2.2.2) fun T1_ X1_ e1_ => ?_
  refine jg T1_ mM 13 ll1 [(.ref pg), (.long o)] (fun tT kK => ?_) ?_
  · refine XS.lconst X1_.here hx rfl (hC e25_6.1) ?_
    refine XS.lcmp X1_.here hx rfl (hC e25_6.2.1) rfl ?_
    refine XS.ifNo X1_.here hx rfl (hC e25_6.2.2.1) rfl ((if0 _ _).trans (tlt ((lw_gt (1 : Int64) (0 : Int64)).mpr ((by decide) : (0 : Int64) < (1 : Int64)))).2.2.2) ?_
    refine XS.lloadN X1_.here hx rfl (hC e25_6.2.2.2) rfl ?_
    refine XS.aloadN X1_.here hx rfl (hC e25_12.1) rfl rfl ?_
    exact kK
  refine jf X1_ hx hZ hown (jk hw 91 rfl) e1_ F2 (hC e25_12.2.1) fun T2_ X2_ e2_ => ?_
  refine jg T2_ mM 22 ll1 [(.ref pg), (.long o)] (fun tT kK => ?_) ?_
  · refine XS.lcmp X2_.here hx rfl (hC e25_12.2.2.1) rfl ?_
    refine XS.ifNo X2_.here hx rfl (hC e25_12.2.2.2) rfl ((if0 _ _).trans (flt (mt (lw_lt o ff).mp (c1 : ¬ (o < ff)))).1) ?_
    refine XS.lloadN X2_.here hx rfl (hC e25_20.1) rfl ?_
    refine XS.aloadN X2_.here hx rfl (hC e25_20.2.1) rfl rfl ?_
    exact kK
  refine jv X2_ hx hZ (y := jy3) hown (jk hw 83 rfl) (jk hw 84 rfl) (jk hw 86 rfl) (jk hw 85 rfl) (jk hw 87 rfl) (jk hw 55 rfl) (rm_lta lL Z a0 hw [] pg ft h0 n0 (Nat.le_trans Z0 K0.1) F7 F3) F0 e2_ own_pd4 [] [(.long o)] (hC e25_20.2.2.1) rfl rfl (by rw [hml]; rfl) (by decide) 2 (Nat.le_of_eq rfl) (by decide) (by decide) (by decide : 0 + 0 ≤ _) (by decide : 0 + 0 ≤ _) fun vv3_ T3_ L3_ X3_ hQ3_ => ?_
  obtain ⟨rfl, N3_q, p3__0⟩ := hQ3_
  have N3_ := Fr.app N0 N3_q
  refine jg T3_ mM 26 ll1 [(.int (lcmpW o ft))] (fun tT kK => ?_) ?_
  · refine XS.lcmp X3_.here hx rfl (hC e25_20.2.2.2) rfl ?_
    exact kK
  by_cases hc26_4_ : o < ft
  · refine jg T3_ mM 29 ll1 [] (fun tT kK => ?_) ?_
    · refine XS.ifNo X3_.here hx rfl (hC e25_26.1) rfl ((if0 _ _).trans (tlt ((lw_lt o ft).mpr (hc26_4_ : o < ft))).2.1) ?_
      exact kK
    obtain ⟨T5_, h5_, X5_, e5_, E5_, A5_, D5_, -, st5_⟩ := newO X3_ hx hZ hown (jk hw 179 rfl) (jk hw 180 rfl) (jk hw 181 rfl) p3__0 (g := (mkF mM 29 ll1 [])) rfl (hC e25_26.2.1) (by decide) (by decide)
    obtain ⟨b5_, g5_⟩ : ∃ z, z = h0.size := ⟨_, rfl⟩
    rw [← g5_] at A5_ D5_ st5_
    have sz_b5_ : h0.size ≤ b5_ := Nat.le_trans K0.1 (Nat.le_of_eq g5_.symm)
    have ge_b5_ : n0 ≤ b5_ := Nat.le_trans Z0 sz_b5_
    have ne6_ : pg ≠ b5_ := Nat.ne_of_lt (Nat.lt_of_lt_of_le F0.lt (Nat.le_of_eq g5_.symm))
    have fc9_ := F2.ext E5_
    have fc10_ := F3.ext E5_
    have fc12_ := F5.ext E5_
    have K5_ := K0.ext E5_
    have F5__this_0 : jF14 Z h5_ b5_ .null := D5_ (Or.inr (jk hw 186 rfl)) (ty := (.object "com/example/portion/portion/server/OffsetSet$Page")) (by decide)
    have F5__from : jF15 Z h5_ b5_ (.long (0 : Int64)) := D5_ (Or.inl (jk hw 190 rfl)) (ty := .long) (by decide)
    have F5__to : jF16 Z h5_ b5_ (.long (0 : Int64)) := D5_ (Or.inl (jk hw 193 rfl)) (ty := .long) (by decide)
    have F5__at : jF17 Z h5_ b5_ (.int (0 : Int32)) := D5_ (Or.inl (jk hw 196 rfl)) (ty := .int) (by decide)
    refine own_fin st5_ ?_
    refine jg T5_ mM 34 ll1 [(.ref pg), (.ref b5_), (.ref b5_)] (fun tT kK => ?_) ?_
    · refine XS.dup X5_.here hx rfl (hC e25_26.2.2.1) rfl rfl ?_
      refine XS.aloadN X5_.here hx rfl (hC e25_26.2.2.2) rfl rfl ?_
      exact kK
    obtain ⟨_, _, ⟨T18_, L18_, k18_, n18_⟩, -, X18_, ⟨Lc18_, hQ18_, l18_, y18_, z18_⟩, st18_⟩ := X5_.specialBackNest hx (y := jy25) rfl hown (own_mvMN hZ (jk hw 182 rfl)) (jm hZ hw 183 rfl) (jm hZ hw 184 rfl) (by decide) (backOf (W := 1) (rm_rn lL Z a0 hw [] b5_ pg ff ft h5_ n0 (Nat.le_trans Z0 K5_.1) A5_ F5__this_0 F5__from F5__to F5__at fc9_ fc10_ fc12_ ge_b5_ ne6_) hZ (jk hw 184 rfl) (jk hw 181 rfl) (by decide) (by decide)) (g := (mkF mM 34 ll1 [(.ref pg), (.ref b5_), (.ref b5_)])) rfl (by rw [hml]; rfl) (Steps.refl _) (a := b5_) (argsL := [(.ref pg)]) (rest := [(.ref b5_)]) (lenOf own_pd11 rfl) rfl (by show 2 * 0 + _ ≤ _; exact Nat.le_of_eq rfl) (hC d25_34) (fun _ _ => ⟨rfl, e5_, (by decide : 1 + 0 ≤ _), (by decide : 4 + 0 ≤ _)⟩)
    dsimp only [Pt.U, Pt.locs, Pt.cells, Pt.slots] at X18_ l18_ y18_ z18_ st18_ hQ18_
    subst l18_ y18_ z18_
    obtain ⟨rfl, N18_q, p18__0, p18__1, p18__2, p18__3, p18__4, p18__5⟩ := hQ18_
    have N18_ := Fr.app N3_ N18_q
    have K18_ := K5_.trans p18__0 (allS (Or.inr sz_b5_) all0)
    refine own_fin (fun tT kK => st18_.trans kK) ?_
    let ll2 : Array Slot := #[vR pg, vJ o, vS, vI 0, vR b5_, vI 1]
    refine jg T18_ mM 50 ll2 [(.ref b5_), (.long o)] (fun tT kK => ?_) ?_
    · let ll3 : Array Slot := #[vR pg, vJ o, vS, vI 0, vR b5_, vU]
      refine XS.astore X18_.here hx rfl (hC e25_37.1) rfl rfl (l' := ll3) rfl ?_
      refine XS.iconst X18_.here hx rfl (hC e25_37.2.1) ?_
      refine XS.istore X18_.here hx rfl (hC e25_37.2.2.1) rfl (l' := ll2) rfl ?_
      refine XS.iload X18_.here hx rfl (hC e25_37.2.2.2) rfl ?_
      refine XS.ifNo X18_.here hx rfl (hC e25_44.1) rfl ((if0 _ _).trans (feq ((by decide) : ¬ ((1 : Int32) = (0 : Int32)))).1) ?_
      refine XS.lloadN X18_.here hx rfl (hC e25_44.2.1) rfl ?_
      refine XS.aload X18_.here hx rfl (hC e25_44.2.2.1) rfl rfl ?_
      exact kK
    refine jn X18_ hx hZ hown (jk hw 197 rfl) rfl p18__4 (hC e25_44.2.2.2) fun T31_ X31_ e31_ => ?_
    refine jg T31_ mM 70 ll2 [(.ref b5_), (.long o)] (fun tT kK => ?_) ?_
    · refine XS.lcmp X31_.here hx rfl (hC e25_53.1) rfl ?_
      refine XS.ifYes X31_.here hx rfl (pc0 := 54) (pc' := 67) rfl (hC e25_53.2.1) rfl ((if0 _ _).trans (tlt ((lw_lt o ft).mpr (hc26_4_ : o < ft))).1) (by decide) (by decide) ?_
      refine XS.lloadN X31_.here hx rfl (hC e25_53.2.2.1) rfl ?_
      refine XS.aload X31_.here hx rfl (hC e25_53.2.2.2) rfl rfl ?_
      exact kK
    refine jn X31_ hx hZ hown (jk hw 198 rfl) e31_ p18__3 (hC e25_70.1) fun T32_ X32_ e32_ => ?_
    refine jg T32_ mM 80 ll2 [(.ref b5_), (.long o)] (fun tT kK => ?_) ?_
    · refine XS.lcmp X32_.here hx rfl (hC e25_70.2.1) rfl ?_
      refine XS.ifNo X32_.here hx rfl (hC e25_70.2.2.1) rfl ((if0 _ _).trans (flt (mt (lw_lt o ff).mp (c1 : ¬ (o < ff)))).1) ?_
      refine XS.lloadN X32_.here hx rfl (hC e25_70.2.2.2) rfl ?_
      refine XS.aload X32_.here hx rfl (hC e25_78.1) rfl rfl ?_
      exact kK
    refine jn X32_ hx hZ hown (jk hw 197 rfl) e32_ p18__4 (hC e25_78.2.1) fun T33_ X33_ e33_ => ?_
    let ll4 : Array Slot := #[vR pg, vJ o, vS, vI 1, vR b5_, vI 1]
    refine jg T33_ mM 94 ll4 [(.int (1 : Int32))] (fun tT kK => ?_) ?_
    · refine XS.lcmp X33_.here hx rfl (hC e25_78.2.2.1) rfl ?_
      refine XS.ifNo X33_.here hx rfl (hC e25_78.2.2.2) rfl ((if0 _ _).trans (tlt ((lw_lt o ft).mpr (hc26_4_ : o < ft))).2.1) ?_
      refine XS.iconst X33_.here hx rfl (hC e25_87.1) ?_
      refine XS.goto X33_.here hx rfl (pc0 := 88) (pc' := 92) rfl (hC e25_87.2.1) (by decide) (by decide) ?_
      refine XS.istoreN X33_.here hx rfl (hC e25_87.2.2.1) rfl (l' := ll4) rfl ?_
      refine XS.iloadN X33_.here hx rfl (hC e25_87.2.2.2) rfl ?_
      exact kK
    exact own_rL X33_ hx hlk hre (by simp) (hC d25_94) (w := (.int (1 : Int32))) rfl e33_ (by decide) (by decide) ⟨by rw [if_pos hc26_4_], N18_, K18_⟩
  · refine jg T3_ mM 94 ll1 [(.int (0 : Int32))] (fun tT kK => ?_) ?_
    · refine XS.ifYes X3_.here hx rfl (pc0 := 26) (pc' := 93) rfl (hC e25_26.1) rfl ((if0 _ _).trans (flt (mt (lw_lt o ft).mp (hc26_4_ : ¬ (o < ft)))).2.1) (by decide) (by decide) ?_
      refine XS.iloadN X3_.here hx rfl (hC e25_87.2.2.2) rfl ?_
      exact kK
    exact own_rL X3_ hx hlk hre (by simp) (hC d25_94) (w := (.int (0 : Int32))) rfl p3__0 (by decide) (by decide) ⟨by rw [if_neg hc26_4_], N3_, K0⟩
theorem e22_10 : jD22 10 (.aload_n 0, 1) ∧ jD22 11 (.getfield 16, 3) ∧ jD22 14 (.iload_n 3, 1) ∧ jD22 15 (.aaload, 1) := by decide +kernel
theorem e22_16 : jD22 16 (.lload_n 1, 1) ∧ jD22 17 (.invokevirtual 55, 3) := by decide +kernel
theorem own_pd12 : parseMethodDescriptor "(J)Z" = some ⟨[.long], some .boolean⟩ := by decide +kernel
theorem e22_20 : jD22 20 (.ifCond .eq 7, 3) ∧ jD22 23 (.iconst 1, 1) ∧ jD22 24 (.goto 4, 3) := by decide +kernel
theorem own_ef_rm_cy (mM : MethodId) (x0 : Addr) (x1 : Int64) : entryFrame mM #[(.ref x0), (.long x1)] 4 = mkF mM 0 #[.val (.ref x0), .val (.long x1), .second, .unset] [] := by first | (simp [entryFrame, mkF, argsToLocals, Value.category]; done) | rfl
def Q_rm_cy (Z : State) (st : Addr) (pa : Addr) (pg : Addr) (nb : Addr) (kq : ClassId) (o : Int64) (ff : Int64) (ft : Int64) (h0 : Heap) (n0 : Nat) (vV : Option Value) (hH : Heap) (lA : List Loc) : Prop := vV = some (.int (if o < ft then (1 : Int32) else (0 : Int32))) ∧ Fr n0 lA ∧ (Keep h0 hH [])
set_option maxRecDepth 65536 in
set_option maxHeartbeats 40000000 in
theorem rm_cy (lL : Launch) (Z : State) (a0 : Array Value) (hw : own_H a0 Z) (ws : List Jvm.Cond) (st : Addr) (pa : Addr) (pg : Addr) (nb : Addr) (kq : ClassId) (o : Int64) (ff : Int64) (ft : Int64) (h0 : Heap) (n0 : Nat) (Z0 : n0 ≤ h0.size) (Es : jE0 Z h0 st) (Fc : jF0 Z h0 st (.int (1 : Int32))) (Fp : jF1 Z h0 st (.ref pa)) (Vp : Arv Z h0 pa kq (.object "com/example/portion/portion/server/OffsetSet$Page") (2 : Int32) [(.ref pg), .null] .null) (G0 : jE1 Z h0 pg) (G1 : jF11 Z h0 pg (.long (1 : Int64))) (G2 : jF2 Z h0 pg (.long ff)) (G3 : jF4 Z h0 pg (.long ft)) (G4 : jF12 Z h0 pg (.ref nb)) (G5 : jF8 Z h0 pg (.int (0 : Int32))) (G6 : jF7 Z h0 pg (.int (0 : Int32))) (G7 : jF3 Z h0 pg (.int (-1 : Int32))) (G8 : jF13 Z h0 pg (.long (0 : Int64))) (G9 : jF6 Z h0 pg (.long (0 : Int64))) (G10 : jF5 Z h0 pg (.long (0 : Int64))) (c1 : ¬ (o < ff)) :
    own_Met lL jy22 (Jvm.Cond.code jy22 prog_38_method_7_code 4 (some .boolean) :: ws) jr23 #[(.ref st), (.long o)] Z h0 (Q_rm_cy Z st pa pg nb kq o ff ft h0 n0) := by
  refine own_begin (plainFor_of_name own_pn_com_example_portion_portion_server_OffsetSet) (fun mM => own_ef_rm_cy mM st o) fun pP eE sS mM below meth cC s₁ hx hby hml hZ hown hnm hre hlk X0 e0 => ?_
  have hC := @Jvm.hb _ _ hby
  have N0 := Fr.nil n0
  have K0 := Keep.refl h0 ([] : List Addr)
  let ll1 : Array Slot := #[vR st, vJ o, vS, vU]
  refine jg s₁ mM 2 ll1 [(.long o), (.ref st)] (fun tT kK => ?_) ?_
  · refine XS.aloadN X0.here hx rfl (hC e22_0.1) rfl rfl ?_
    refine XS.lloadN X0.here hx rfl (hC e22_0.2.1) rfl ?_
    exact kK
  refine jw X0 hx hZ (y := jy2) hown (jk hw 33 rfl) (jk hw 34 rfl) (own_selP (y := jy2) hZ (jk hw 6 rfl) (jk hw 35 rfl) (jk hw 34 rfl) (by decide)) (jk hw 35 rfl) (jk hw 36 rfl) (jk hw 7 rfl) (rm_pay lL Z a0 hw [] st pa pg kq o ff h0 n0 (Nat.le_trans Z0 K0.1) Fc Fp Vp G2 c1) Es e0 own_pd9 [(.long o)] [] (hC e22_0.2.2.1) rfl rfl (by rw [hml]; rfl) (by decide) 0 (Nat.le_of_eq rfl) (by decide) (by decide) (by decide : 0 + 0 ≤ _) (by decide : 0 + 0 ≤ _) fun vv1_ T1_ L1_ X1_ hQ1_ => ?_
  obtain ⟨rfl, N1_q, p1__0⟩ := hQ1_
  have N1_ := Fr.app N0 N1_q
  let ll2 : Array Slot := #[vR st, vJ o, vS, vI 0]
  refine jg T1_ mM 11 ll2 [(.ref st)] (fun tT kK => ?_) ?_
  · refine XS.istoreN X1_.here hx rfl (hC e22_0.2.2.2) rfl (l' := ll2) rfl ?_
    refine XS.iloadN X1_.here hx rfl (hC e22_6.1) rfl ?_
    refine XS.ifNo X1_.here hx rfl (hC e22_6.2.1) rfl ((if0 _ _).trans (flt ((by decide) : ¬ ((0 : Int32) < (0 : Int32)))).1) ?_
    refine XS.aloadN X1_.here hx rfl (hC e22_10.1) rfl rfl ?_
    exact kK
  refine jf X1_ hx hZ hown (jk hw 16 rfl) p1__0 Fp (hC e22_10.2.1) fun T2_ X2_ e2_ => ?_
  refine jg T2_ mM 15 ll2 [(.int (0 : Int32)), (.ref pa)] (fun tT kK => ?_) ?_
  · refine XS.iloadN X2_.here hx rfl (hC e22_10.2.2.1) rfl ?_
    exact kK
  obtain ⟨cl3_, Ar3_, qk3_, Sz3_, Nn3_, Hh3_, Gg3_⟩ := id Vp
  have hin4_ : ¬ ((0 : Int32) < 0 ∨ cl3_.slots.size ≤ ((0 : Int32)).toNatClampNeg) := inb_of Sz3_ ⟨by decide, by decide⟩
  have hat4_ : cl3_.slots[((0 : Int32)).toNatClampNeg]? = some (.ref pg) := Hh3_.at hin4_ rfl
  refine jg T2_ mM 17 ll2 [(.long o), (.ref pg)] (fun tT kK => ?_) ?_
  · refine X2_.aaload hx (j := (0 : Int32)) (v := (.ref pg)) (own_rw e2_ Ar3_.1) (State.isArrayOf_alike hZ.alike Ar3_.2.1) rfl Ar3_.2.2 hin4_ hat4_ (g := (mkF mM 15 ll2 [(.int (0 : Int32)), (.ref pa)])) rfl rfl (hC e22_10.2.2.2) _ ?_
    refine XS.lloadN X2_.here hx rfl (hC e22_16.1) rfl ?_
    exact kK
  refine jv X2_ hx hZ (y := jy26) hown (jk hw 160 rfl) (jk hw 161 rfl) (jk hw 163 rfl) (jk hw 162 rfl) (jk hw 164 rfl) (jk hw 55 rfl) (rm_pc lL Z a0 hw [] pg nb o ff ft h0 n0 (Nat.le_trans Z0 K0.1) G0 G1 G2 G3 G4 G5 G6 G7 G8 G9 G10 c1) G0 e2_ own_pd12 [(.long o)] [] (hC e22_16.2) rfl rfl (by rw [hml]; rfl) (by decide) 0 (Nat.le_of_eq rfl) (by decide) (by decide) (by decide : 0 + 1 ≤ _) (by decide : 0 + 4 ≤ _) fun vv5_ T5_ L5_ X5_ hQ5_ => ?_
  obtain ⟨rfl, N5_q, p5__0⟩ := hQ5_
  have N5_ := Fr.app N1_ N5_q
  have K5_ := K0.trans p5__0 all0
  by_cases hc20_21_ : (if o < ft then (1 : Int32) else (0 : Int32)) = (0 : Int32)
  · refine jg T5_ mM 28 ll2 [(.int (0 : Int32))] (fun tT kK => ?_) ?_
    · refine XS.ifYes X5_.here hx rfl (pc0 := 20) (pc' := 27) rfl (hC e22_20.1) rfl ((if0 _ _).trans (teq (hc20_21_ : (if o < ft then (1 : Int32) else (0 : Int32)) = (0 : Int32))).1) (by decide) (by decide) ?_
      refine XS.iconst X5_.here hx rfl (hC e22_6.2.2.1) ?_
      exact kK
    exact own_rL X5_ hx hlk hre (by simp) (hC e22_6.2.2.2) (w := (.int (0 : Int32))) rfl rfl (by decide) (by decide) ⟨congrArg (fun z => some (Value.int z)) (hc20_21_).symm, N5_, K5_⟩
  · refine jg T5_ mM 28 ll2 [(.int (1 : Int32))] (fun tT kK => ?_) ?_
    · refine XS.ifNo X5_.here hx rfl (hC e22_20.1) rfl ((if0 _ _).trans (feq (hc20_21_ : ¬ ((if o < ft then (1 : Int32) else (0 : Int32)) = (0 : Int32)))).1) ?_
      refine XS.iconst X5_.here hx rfl (hC e22_20.2.1) ?_
      refine XS.goto X5_.here hx rfl (pc0 := 24) (pc' := 28) rfl (hC e22_20.2.2) (by decide) (by decide) ?_
      exact kK
    exact own_rL X5_ hx hlk hre (by simp) (hC e22_6.2.2.2) (w := (.int (1 : Int32))) rfl rfl (by decide) (by decide) ⟨by rw [if_pos (Classical.byContradiction fun q => hc20_21_ (if_neg q))], N5_, K5_⟩
theorem own_ef_rm_cn (mM : MethodId) (x0 : Addr) (x1 : Int64) : entryFrame mM #[(.ref x0), (.long x1)] 4 = mkF mM 0 #[.val (.ref x0), .val (.long x1), .second, .unset] [] := by first | (simp [entryFrame, mkF, argsToLocals, Value.category]; done) | rfl
def Q_rm_cn (Z : State) (st : Addr) (pa : Addr) (pg : Addr) (kq : ClassId) (o : Int64) (ff : Int64) (h0 : Heap) (n0 : Nat) (vV : Option Value) (hH : Heap) (lA : List Loc) : Prop := vV = some (.int (0 : Int32)) ∧ Fr n0 lA ∧ (hH = h0)
set_option maxRecDepth 65536 in
set_option maxHeartbeats 40000000 in
theorem rm_cn (lL : Launch) (Z : State) (a0 : Array Value) (hw : own_H a0 Z) (ws : List Jvm.Cond) (st : Addr) (pa : Addr) (pg : Addr) (kq : ClassId) (o : Int64) (ff : Int64) (h0 : Heap) (n0 : Nat) (Z0 : n0 ≤ h0.size) (Es : jE0 Z h0 st) (Fc : jF0 Z h0 st (.int (1 : Int32))) (Fp : jF1 Z h0 st (.ref pa)) (Vp : Arv Z h0 pa kq (.object "com/example/portion/portion/server/OffsetSet$Page") (2 : Int32) [(.ref pg), .null] .null) (Ff : jF2 Z h0 pg (.long ff)) (c1 : o < ff) :
    own_Met lL jy22 (Jvm.Cond.code jy22 prog_38_method_7_code 4 (some .boolean) :: ws) jr21 #[(.ref st), (.long o)] Z h0 (Q_rm_cn Z st pa pg kq o ff h0 n0) := by
  refine own_begin (plainFor_of_name own_pn_com_example_portion_portion_server_OffsetSet) (fun mM => own_ef_rm_cn mM st o) fun pP eE sS mM below meth cC s₁ hx hby hml hZ hown hnm hre hlk X0 e0 => ?_
  have hC := @Jvm.hb _ _ hby
  have N0 := Fr.nil n0
  have K0 := Keep.refl h0 ([] : List Addr)
  let ll1 : Array Slot := #[vR st, vJ o, vS, vU]
  refine jg s₁ mM 2 ll1 [(.long o), (.ref st)] (fun tT kK => ?_) ?_
  · refine XS.aloadN X0.here hx rfl (hC e22_0.1) rfl rfl ?_
    refine XS.lloadN X0.here hx rfl (hC e22_0.2.1) rfl ?_
    exact kK
  refine jw X0 hx hZ (y := jy2) hown (jk hw 33 rfl) (jk hw 34 rfl) (own_selP (y := jy2) hZ (jk hw 6 rfl) (jk hw 35 rfl) (jk hw 34 rfl) (by decide)) (jk hw 35 rfl) (jk hw 36 rfl) (jk hw 7 rfl) (rm_pan lL Z a0 hw [] st pa pg kq o ff h0 n0 (Nat.le_trans Z0 K0.1) Fc Fp Vp Ff c1) Es e0 own_pd9 [(.long o)] [] (hC e22_0.2.2.1) rfl rfl (by rw [hml]; rfl) (by decide) 0 (Nat.le_of_eq rfl) (by decide) (by decide) (by decide : 0 + 0 ≤ _) (by decide : 0 + 0 ≤ _) fun vv1_ T1_ L1_ X1_ hQ1_ => ?_
  obtain ⟨rfl, N1_q, p1__0⟩ := hQ1_
  have N1_ := Fr.app N0 N1_q
  let ll2 : Array Slot := #[vR st, vJ o, vS, vI (-1)]
  refine jg T1_ mM 28 ll2 [(.int (0 : Int32))] (fun tT kK => ?_) ?_
  · refine XS.istoreN X1_.here hx rfl (hC e22_0.2.2.2) rfl (l' := ll2) rfl ?_
    refine XS.iloadN X1_.here hx rfl (hC e22_6.1) rfl ?_
    refine XS.ifYes X1_.here hx rfl (pc0 := 7) (pc' := 27) rfl (hC e22_6.2.1) rfl ((if0 _ _).trans (tlt ((by decide) : (-1 : Int32) < (0 : Int32))).1) (by decide) (by decide) ?_
    refine XS.iconst X1_.here hx rfl (hC e22_6.2.2.1) ?_
    exact kK
  exact own_rL X1_ hx hlk hre (by simp) (hC e22_6.2.2.2) (w := (.int (0 : Int32))) rfl p1__0 (by decide) (by decide) ⟨rfl, N1_, rfl⟩
theorem own_pb (p : Int32) : 1 ≤ ((1 : Int32) + (p &&& (1023 : Int32))).toInt := by
  have m := c_mask p (1023 : Int32) 10 (by decide) (by decide)
  have a := c_iadd (1 : Int32) (p &&& (1023 : Int32))
  have r := rng32 ((1 : Int32) + (p &&& (1023 : Int32)))
  rw [own_i1] at a
  omega
theorem own_av {p a : Int64} (h : (p &&& (4611686018427387903 : Int64)) = a) : 0 ≤ a.toInt ∧ a.toInt < 4611686018427387904 := by
  have m := c_maskL p (4611686018427387903 : Int64) 62 (by decide) (by decide)
  rw [h] at m; omega
theorem own_bv {a p b : Int64} (ha : 0 ≤ a.toInt ∧ a.toInt < 4611686018427387904) (h : ((a + (2 : Int64)) + (p &&& (65535 : Int64))) = b) : a.toInt + 2 ≤ b.toInt ∧ b.toInt ≤ a.toInt + 65537 := by
  have m := c_maskL p (65535 : Int64) 16 (by decide) (by decide)
  have q := c_ladd a (2 : Int64)
  have q2 := c_ladd (a + (2 : Int64)) (p &&& (65535 : Int64))
  have r := rng64 (a + (2 : Int64))
  have r2 := rng64 b
  rw [h] at q2; rw [own_l2] at q
  omega
theorem own_nv {x n : Int64} (h : ((1 : Int64) + (x &&& (4095 : Int64))) = n) : 1 ≤ n.toInt ∧ n.toInt ≤ 4096 := by
  have m := c_maskL x (4095 : Int64) 12 (by decide) (by decide)
  have q := c_ladd (1 : Int64) (x &&& (4095 : Int64))
  have r := rng64 n
  rw [h, own_l1] at q
  omega
theorem own_cv {b n p c : Int64} (hb : 0 ≤ b.toInt ∧ b.toInt < 4611686018427500000) (hn : 1 ≤ n.toInt ∧ n.toInt ≤ 4096) (h : (((b + n) + (1 : Int64)) + (p &&& (16777215 : Int64))) = c) : b.toInt + n.toInt + 1 ≤ c.toInt ∧ c.toInt ≤ b.toInt + n.toInt + 16777216 := by
  have m := c_maskL p (16777215 : Int64) 24 (by decide) (by decide)
  have q := c_ladd b n
  have q1 := c_ladd (b + n) (1 : Int64)
  have q2 := c_ladd ((b + n) + (1 : Int64)) (p &&& (16777215 : Int64))
  have r := rng64 (b + n)
  have r1 := rng64 ((b + n) + (1 : Int64))
  have r2 := rng64 c
  rw [h] at q2; rw [own_l1] at q1
  omega
theorem own_add {x y : Int64} (h : -4000000000000000000 ≤ x.toInt + y.toInt ∧ x.toInt + y.toInt ≤ 9000000000000000000) : (x + y).toInt = x.toInt + y.toInt := by
  have q := c_ladd x y
  have r := rng64 (x + y)
  omega
theorem own_sub {x y : Int64} (h : -4000000000000000000 ≤ x.toInt - y.toInt ∧ x.toInt - y.toInt ≤ 9000000000000000000) : (x - y).toInt = x.toInt - y.toInt := by
  have q := c_lsub x y
  have r := rng64 (x - y)
  omega
theorem own_beq {b d : Int64} (hb : ¬ b < d) (hd : 0 ≤ d.toInt ∧ d.toInt < 4611686018427387904) : (b < (d + (1 : Int64))) ↔ b = d := by
  have q := own_add (x := d) (y := (1 : Int64)) (by rw [own_l1]; omega)
  rw [own_l1] at q
  rw [Int64.lt_iff_toInt_lt] at hb ⊢
  rw [q]
  constructor
  · intro h; exact Int64.toInt_inj.mp (by omega)
  · rintro rfl; omega
theorem own_lt {x y : Int64} (h : x.toInt < y.toInt) : x < y := Int64.lt_iff_toInt_lt.mpr h
theorem own_nl {x y : Int64} (h : y.toInt ≤ x.toInt) : ¬ (x < y) := fun q => by have := Int64.lt_iff_toInt_lt.mp q; omega
theorem own_ng {x : Int64} (h : 0 ≤ x.toInt) : ¬ (x < (0 : Int64)) := own_nl (by rw [own_l0]; exact h)
theorem own_nz {x : Int64} (h : 1 ≤ x.toInt) : ¬ (x = (0 : Int64)) := fun q => by rw [q, own_l0] at h; omega
theorem own_k12 {k : Int32} (h : k < (1 : Int32)) : k < (2 : Int32) := by
  rw [Int32.lt_iff_toInt_lt] at h ⊢; rw [own_i1] at h; show _ < (2 : Int); omega
theorem own_k23 {k : Int32} (h : k < (2 : Int32)) : k < (3 : Int32) := by
  rw [Int32.lt_iff_toInt_lt] at h ⊢; have h' : k.toInt < 2 := h; show _ < (3 : Int); omega
theorem own_pd13 : parseMethodDescriptor "()Z" = some ⟨[], some .boolean⟩ := by decide +kernel
theorem own_pn_com_example_portion_portion_server_OffsetSetClearPinLaw : plainName "com/example/portion/portion/server/OffsetSetClearPinLaw" = true := by first | (simp [plainName, overriddenIn]; done) | decide +kernel
theorem own_ef_rm0 (mM : MethodId) (x0 : Int64) (x1 : Int64) (x2 : Int64) (x3 : Int32) (x4 : Int64) (x5 : Int32) : entryFrame mM #[(.long x0), (.long x1), (.long x2), (.int x3), (.long x4), (.int x5)] maxLocals = mkF mM 0 #[.val (.long x0), .second, .val (.long x1), .second, .val (.long x2), .second, .val (.int x3), .val (.long x4), .second, .val (.int x5), .unset, .unset, .unset, .unset, .unset, .unset, .unset, .unset, .unset, .unset, .unset, .unset, .unset, .unset, .unset, .unset, .unset, .unset, .unset, .unset] [] := by first | (simp [entryFrame, mkF, argsToLocals, Value.category, maxLocals]; done) | rfl
def Q_rm0 (Z : State) (q1 : Int64) (q2 : Int64) (q3 : Int64) (p4 : Int32) (q5 : Int64) (p6 : Int32) (np : Addr) (nb : Addr) (kp : ClassId) (kn : ClassId) (h0 : Heap) (n0 : Nat) (vV : Option Value) (hH : Heap) (lA : List Loc) : Prop := vV = some (.int (1 : Int32)) ∧ Fr n0 lA
set_option maxRecDepth 65536 in
set_option maxHeartbeats 40000000 in
theorem rm0 (lL : Launch) (Z : State) (a0 : Array Value) (hw : own_H a0 Z) (ws : List Jvm.Cond) (q1 : Int64) (q2 : Int64) (q3 : Int64) (p4 : Int32) (q5 : Int64) (p6 : Int32) (np : Addr) (nb : Addr) (kp : ClassId) (kn : ClassId) (h0 : Heap) (n0 : Nat) (Z0 : n0 ≤ h0.size) (Zp : Sta Z Z.heap "com/example/portion/portion/server/OffsetSet" "NO_PAGES" "[Lcom/example/portion/portion/server/OffsetSet$Page;" (.ref np)) (Zb : Sta Z Z.heap "com/example/portion/portion/server/OffsetSet" "NO_BYTES" "[B" (.ref nb)) (O0 : Old Z n0 h0) (Vn : Arv Z h0 np kp (.object "com/example/portion/portion/server/OffsetSet$Page") (0 : Int32) [] .null) (Vb : Arv Z h0 nb kn .byte (0 : Int32) [] (.int (0 : Int32))) :
    own_Met lL x (Jvm.Cond.code x code maxLocals ret :: ws) room_1 #[(.long q1), (.long q2), (.long q3), (.int p4), (.long q5), (.int p6)] Z h0 (Q_rm0 Z q1 q2 q3 p4 q5 p6 np nb kp kn h0 n0) := by
  refine own_begin (plainFor_of_name own_pn_com_example_portion_portion_server_OffsetSetClearPinLaw) (fun mM => own_ef_rm0 mM q1 q2 q3 p4 q5 p6) fun pP eE sS mM below meth cC s₁ hx hby hml hZ hown hnm hre hlk X0 e0 => ?_
  have hC := @Jvm.hb _ _ hby
  have N0 := Fr.nil n0
  have K0 := Keep.refl h0 ([] : List Addr)
  let ll1 : Array Slot := #[vJ q1, vS, vJ q2, vS, vJ q3, vS, vI p4, vJ q5, vS, vI p6, vI ((1 : Int32) + (p6 &&& (1023 : Int32))), vU, vU, vU, vU, vU, vU, vU, vU, vU, vU, vU, vU, vU, vU, vU, vU, vU, vU, vU]
  refine jg s₁ mM 10 ll1 [] (fun tT kK => ?_) ?_
  · refine XS.iconst X0.here hx rfl (hC at_0) ?_
    refine XS.iload X0.here hx rfl (hC at_1) rfl ?_
    refine XS.sipush X0.here hx rfl (hC at_3) ?_
    refine XS.iand X0.here hx rfl (hC at_6) rfl ?_
    refine XS.iadd X0.here hx rfl (hC at_7) rfl ?_
    refine XS.istore X0.here hx rfl (hC at_8) rfl (l' := ll1) rfl ?_
    exact kK
  show own_Fin pP eE below _ (s₁.setTop (mkF mM 10 #[.val (.long q1), .second, .val (.long q2), .second, .val (.long q3), .second, .val (.int p4), .val (.long q5), .second, .val (.int p6), .val (.int ((1 : Int32) + (p6 &&& (1023 : Int32)))), .unset, .unset, .unset, .unset, .unset, .unset, .unset, .unset, .unset, .unset, .unset, .unset, .unset, .unset, .unset, .unset, .unset, .unset, .unset] []))
  generalize hpb : ((1 : Int32) + (p6 &&& (1023 : Int32))) = pb
  have hp : 1 ≤ pb.toInt := by rw [← hpb]; exact own_pb p6
  let ll2 : Array Slot := #[vJ q1, vS, vJ q2, vS, vJ q3, vS, vI p4, vJ q5, vS, vI p6, vI pb, vJ (q1 &&& (4611686018427387903 : Int64)), vS, vU, vU, vU, vU, vU, vU, vU, vU, vU, vU, vU, vU, vU, vU, vU, vU, vU]
  refine jg s₁ mM 17 ll2 [] (fun tT kK => ?_) ?_
  · refine XS.lloadN X0.here hx rfl (hC at_10) rfl ?_
    let ll3 : Array Slot := #[vJ q1, vS, vJ q2, vS, vJ q3, vS, vI p4, vJ q5, vS, vI p6, vI pb, vU, vU, vU, vU, vU, vU, vU, vU, vU, vU, vU, vU, vU, vU, vU, vU, vU, vU, vU]
    refine X0.ldc2Long hx hown (jm hZ hw 0 rfl) (g := (mkF mM 11 ll3 [(.long q1)])) rfl (hC at_11) _ ?_
    refine XS.land X0.here hx rfl (hC at_14) rfl ?_
    refine XS.lstore X0.here hx rfl (hC at_15) rfl (l' := ll2) rfl ?_
    exact kK
  show own_Fin pP eE below _ (s₁.setTop (mkF mM 17 #[.val (.long q1), .second, .val (.long q2), .second, .val (.long q3), .second, .val (.int p4), .val (.long q5), .second, .val (.int p6), .val (.int pb), .val (.long (q1 &&& (4611686018427387903 : Int64))), .second, .unset, .unset, .unset, .unset, .unset, .unset, .unset, .unset, .unset, .unset, .unset, .unset, .unset, .unset, .unset, .unset, .unset] []))
  generalize hav : (q1 &&& (4611686018427387903 : Int64)) = av
  have ha := own_av hav
  let ll4 : Array Slot := #[vJ q1, vS, vJ q2, vS, vJ q3, vS, vI p4, vJ q5, vS, vI p6, vI pb, vJ av, vS, vJ ((av + (2 : Int64)) + (q2 &&& (65535 : Int64))), vS, vU, vU, vU, vU, vU, vU, vU, vU, vU, vU, vU, vU, vU, vU, vU]
  refine jg s₁ mM 31 ll4 [] (fun tT kK => ?_) ?_
  · refine XS.lload X0.here hx rfl (hC at_17) rfl ?_
    let ll5 : Array Slot := #[vJ q1, vS, vJ q2, vS, vJ q3, vS, vI p4, vJ q5, vS, vI p6, vI pb, vJ av, vS, vU, vU, vU, vU, vU, vU, vU, vU, vU, vU, vU, vU, vU, vU, vU, vU, vU]
    refine X0.ldc2Long hx hown (jm hZ hw 1 rfl) (g := (mkF mM 19 ll5 [(.long av)])) rfl (hC at_19) _ ?_
    refine XS.ladd X0.here hx rfl (hC at_22) rfl ?_
    refine XS.lloadN X0.here hx rfl (hC at_23) rfl ?_
    refine X0.ldc2Long hx hown (jm hZ hw 2 rfl) (g := (mkF mM 24 ll5 [(.long q2), (.long (av + (2 : Int64)))])) rfl (hC at_24) _ ?_
    refine XS.land X0.here hx rfl (hC at_27) rfl ?_
    refine XS.ladd X0.here hx rfl (hC at_28) rfl ?_
    refine XS.lstore X0.here hx rfl (hC at_29) rfl (l' := ll4) rfl ?_
    exact kK
  show own_Fin pP eE below _ (s₁.setTop (mkF mM 31 #[.val (.long q1), .second, .val (.long q2), .second, .val (.long q3), .second, .val (.int p4), .val (.long q5), .second, .val (.int p6), .val (.int pb), .val (.long av), .second, .val (.long ((av + (2 : Int64)) + (q2 &&& (65535 : Int64)))), .second, .unset, .unset, .unset, .unset, .unset, .unset, .unset, .unset, .unset, .unset, .unset, .unset, .unset, .unset, .unset] []))
  generalize hbv : ((av + (2 : Int64)) + (q2 &&& (65535 : Int64))) = bv
  have hb := own_bv ha hbv
  let ll6 : Array Slot := #[vJ q1, vS, vJ q2, vS, vJ q3, vS, vI p4, vJ q5, vS, vI p6, vI pb, vJ av, vS, vJ bv, vS, vJ ((1 : Int64) + (((q2.toUInt64 >>> ((20 : Int32) &&& 0x3f).toInt64.toUInt64).toInt64) &&& (4095 : Int64))), vS, vU, vU, vU, vU, vU, vU, vU, vU, vU, vU, vU, vU, vU]
  refine jg s₁ mM 43 ll6 [] (fun tT kK => ?_) ?_
  · refine XS.lconst X0.here hx rfl (hC at_31) ?_
    refine XS.lloadN X0.here hx rfl (hC at_32) rfl ?_
    refine XS.bipush X0.here hx rfl (hC at_33) ?_
    refine XS.lushr X0.here hx rfl (hC at_35) rfl ?_
    let ll7 : Array Slot := #[vJ q1, vS, vJ q2, vS, vJ q3, vS, vI p4, vJ q5, vS, vI p6, vI pb, vJ av, vS, vJ bv, vS, vU, vU, vU, vU, vU, vU, vU, vU, vU, vU, vU, vU, vU, vU, vU]
    refine X0.ldc2Long hx hown (jm hZ hw 3 rfl) (g := (mkF mM 36 ll7 [(.long ((q2.toUInt64 >>> ((20 : Int32) &&& 0x3f).toInt64.toUInt64).toInt64)), (.long (1 : Int64))])) rfl (hC at_36) _ ?_
    refine XS.land X0.here hx rfl (hC at_39) rfl ?_
    refine XS.ladd X0.here hx rfl (hC at_40) rfl ?_
    refine XS.lstore X0.here hx rfl (hC at_41) rfl (l' := ll6) rfl ?_
    exact kK
  show own_Fin pP eE below _ (s₁.setTop (mkF mM 43 #[.val (.long q1), .second, .val (.long q2), .second, .val (.long q3), .second, .val (.int p4), .val (.long q5), .second, .val (.int p6), .val (.int pb), .val (.long av), .second, .val (.long bv), .second, .val (.long ((1 : Int64) + (((q2.toUInt64 >>> ((20 : Int32) &&& 0x3f).toInt64.toUInt64).toInt64) &&& (4095 : Int64)))), .second, .unset, .unset, .unset, .unset, .unset, .unset, .unset, .unset, .unset, .unset, .unset, .unset, .unset] []))
  generalize hln : ((1 : Int64) + (((q2.toUInt64 >>> ((20 : Int32) &&& 0x3f).toInt64.toUInt64).toInt64) &&& (4095 : Int64))) = ln
  have hn := own_nv hln
  let ll8 : Array Slot := #[vJ q1, vS, vJ q2, vS, vJ q3, vS, vI p4, vJ q5, vS, vI p6, vI pb, vJ av, vS, vJ bv, vS, vJ ln, vS, vJ (((bv + ln) + (1 : Int64)) + (q3 &&& (16777215 : Int64))), vS, vU, vU, vU, vU, vU, vU, vU, vU, vU, vU, vU]
  refine jg s₁ mM 59 ll8 [] (fun tT kK => ?_) ?_
  · refine XS.lload X0.here hx rfl (hC at_43) rfl ?_
    refine XS.lload X0.here hx rfl (hC at_45) rfl ?_
    refine XS.ladd X0.here hx rfl (hC at_47) rfl ?_
    refine XS.lconst X0.here hx rfl (hC at_48) ?_
    refine XS.ladd X0.here hx rfl (hC at_49) rfl ?_
    refine XS.lload X0.here hx rfl (hC at_50) rfl ?_
    let ll9 : Array Slot := #[vJ q1, vS, vJ q2, vS, vJ q3, vS, vI p4, vJ q5, vS, vI p6, vI pb, vJ av, vS, vJ bv, vS, vJ ln, vS, vU, vU, vU, vU, vU, vU, vU, vU, vU, vU, vU, vU, vU]
    refine X0.ldc2Long hx hown (jm hZ hw 4 rfl) (g := (mkF mM 52 ll9 [(.long q3), (.long ((bv + ln) + (1 : Int64)))])) rfl (hC at_52) _ ?_
    refine XS.land X0.here hx rfl (hC at_55) rfl ?_
    refine XS.ladd X0.here hx rfl (hC at_56) rfl ?_
    refine XS.lstore X0.here hx rfl (hC at_57) rfl (l' := ll8) rfl ?_
    exact kK
  show own_Fin pP eE below _ (s₁.setTop (mkF mM 59 #[.val (.long q1), .second, .val (.long q2), .second, .val (.long q3), .second, .val (.int p4), .val (.long q5), .second, .val (.int p6), .val (.int pb), .val (.long av), .second, .val (.long bv), .second, .val (.long ln), .second, .val (.long (((bv + ln) + (1 : Int64)) + (q3 &&& (16777215 : Int64)))), .second, .unset, .unset, .unset, .unset, .unset, .unset, .unset, .unset, .unset, .unset, .unset] []))
  generalize hcv : (((bv + ln) + (1 : Int64)) + (q3 &&& (16777215 : Int64))) = cv
  have hc := own_cv (by omega) hn hcv
  let ll10 : Array Slot := #[vJ q1, vS, vJ q2, vS, vJ q3, vS, vI p4, vJ q5, vS, vI p6, vI pb, vJ av, vS, vJ bv, vS, vJ ln, vS, vJ cv, vS, vJ (q5 &&& (4611686018427387903 : Int64)), vS, vU, vU, vU, vU, vU, vU, vU, vU, vU]
  refine jg s₁ mM 67 ll10 [] (fun tT kK => ?_) ?_
  · refine XS.lload X0.here hx rfl (hC at_59) rfl ?_
    let ll11 : Array Slot := #[vJ q1, vS, vJ q2, vS, vJ q3, vS, vI p4, vJ q5, vS, vI p6, vI pb, vJ av, vS, vJ bv, vS, vJ ln, vS, vJ cv, vS, vU, vU, vU, vU, vU, vU, vU, vU, vU, vU, vU]
    refine X0.ldc2Long hx hown (jm hZ hw 0 rfl) (g := (mkF mM 61 ll11 [(.long q5)])) rfl (hC at_61) _ ?_
    refine XS.land X0.here hx rfl (hC at_64) rfl ?_
    refine XS.lstore X0.here hx rfl (hC at_65) rfl (l' := ll10) rfl ?_
    exact kK
  show own_Fin pP eE below _ (s₁.setTop (mkF mM 67 #[.val (.long q1), .second, .val (.long q2), .second, .val (.long q3), .second, .val (.int p4), .val (.long q5), .second, .val (.int p6), .val (.int pb), .val (.long av), .second, .val (.long bv), .second, .val (.long ln), .second, .val (.long cv), .second, .val (.long (q5 &&& (4611686018427387903 : Int64))), .second, .unset, .unset, .unset, .unset, .unset, .unset, .unset, .unset, .unset] []))
  generalize hdv : (q5 &&& (4611686018427387903 : Int64)) = dv
  have hd := own_av hdv
  let ll12 : Array Slot := #[vJ q1, vS, vJ q2, vS, vJ q3, vS, vI p4, vJ q5, vS, vI p6, vI pb, vJ av, vS, vJ bv, vS, vJ ln, vS, vJ cv, vS, vJ dv, vS, vI (p4 &&& (3 : Int32)), vU, vU, vU, vU, vU, vU, vU, vU]
  refine jg s₁ mM 73 ll12 [] (fun tT kK => ?_) ?_
  · refine XS.iload X0.here hx rfl (hC at_67) rfl ?_
    refine XS.iconst X0.here hx rfl (hC at_69) ?_
    refine XS.iand X0.here hx rfl (hC at_70) rfl ?_
    refine XS.istore X0.here hx rfl (hC at_71) rfl (l' := ll12) rfl ?_
    exact kK
  show own_Fin pP eE below _ (s₁.setTop (mkF mM 73 #[.val (.long q1), .second, .val (.long q2), .second, .val (.long q3), .second, .val (.int p4), .val (.long q5), .second, .val (.int p6), .val (.int pb), .val (.long av), .second, .val (.long bv), .second, .val (.long ln), .second, .val (.long cv), .second, .val (.long dv), .second, .val (.int (p4 &&& (3 : Int32))), .unset, .unset, .unset, .unset, .unset, .unset, .unset, .unset] []))
  generalize hkv : (p4 &&& (3 : Int32)) = kv
  have hl1 := own_l1
  have e1 := own_add (x := av) (y := (1 : Int64)) (by omega)
  have e2 := own_add (x := bv) (y := ln) (by omega)
  have e3 := own_add (x := cv) (y := (1 : Int64)) (by omega)
  have e4 := own_add (x := dv) (y := (1 : Int64)) (by omega)
  have e5 := own_sub (x := bv) (y := av + (1 : Int64)) (by omega)
  have e6 := own_sub (x := bv + ln) (y := bv) (by omega)
  have e7 := own_sub (x := cv) (y := bv + ln) (by omega)
  have e8 := own_sub (x := cv + (1 : Int64)) (y := cv) (by omega)
  have e9 := own_add (x := (1 : Int64)) (y := ((bv + ln) - bv)) (by omega)
  have e10 := own_sub (x := ((1 : Int64) + ((bv + ln) - bv))) (y := (1 : Int64)) (by omega)
  have e11 := own_add (x := (1 : Int64)) (y := (((1 : Int64) + ((bv + ln) - bv)) - (1 : Int64))) (by omega)
  let ll13 : Array Slot := #[vJ q1, vS, vJ q2, vS, vJ q3, vS, vI p4, vJ q5, vS, vI p6, vI pb, vJ av, vS, vJ bv, vS, vJ ln, vS, vJ cv, vS, vJ dv, vS, vI kv, vU, vU, vU, vU, vU, vU, vU, vU]
  obtain ⟨T1_, h1_, X1_, e1_, E1_, A1_, D1_, -, st1_⟩ := newO X0 hx hZ hown (jk hw 5 rfl) (jk hw 6 rfl) (jk hw 7 rfl) e0 (g := (mkF mM 73 ll13 [])) rfl (hC at_73) (by decide) (by decide)
  obtain ⟨b1_, g1_⟩ : ∃ z, z = h0.size := ⟨_, rfl⟩
  rw [← g1_] at A1_ D1_ st1_
  have sz_b1_ : h0.size ≤ b1_ := Nat.le_trans K0.1 (Nat.le_of_eq g1_.symm)
  have ge_b1_ : n0 ≤ b1_ := Nat.le_trans Z0 sz_b1_
  have ne2_ : np ≠ b1_ := Nat.ne_of_lt (Nat.lt_of_lt_of_le Vn.lt (Nat.le_of_eq g1_.symm))
  have ne3_ : nb ≠ b1_ := Nat.ne_of_lt (Nat.lt_of_lt_of_le Vb.lt (Nat.le_of_eq g1_.symm))
  have fc4_ := O0.ext E1_
  have fc5_ := Vn.ext E1_
  have fc6_ := Vb.ext E1_
  have K1_ := K0.ext E1_
  have F1__pages : jF1 Z h1_ b1_ .null := D1_ (Or.inl (jk hw 17 rfl)) (ty := (.array (.object "com/example/portion/portion/server/OffsetSet$Page"))) (by decide)
  have F1__pageBytes : jF10 Z h1_ b1_ (.int (0 : Int32)) := D1_ (Or.inr (jk hw 19 rfl)) (ty := .int) (by decide)
  have F1__pageCount : jF0 Z h1_ b1_ (.int (0 : Int32)) := D1_ (Or.inl (jk hw 38 rfl)) (ty := .int) (by decide)
  have F1__size : jF9 Z h1_ b1_ (.long (0 : Int64)) := D1_ (Or.inl (jk hw 44 rfl)) (ty := .long) (by decide)
  refine own_fin st1_ ?_
  refine jg T1_ mM 79 ll13 [(.int pb), (.ref b1_), (.ref b1_)] (fun tT kK => ?_) ?_
  · refine XS.dup X1_.here hx rfl (hC at_76) rfl rfl ?_
    refine XS.iload X1_.here hx rfl (hC at_77) rfl ?_
    exact kK
  refine own_sb X1_ hx hZ (y := jy6) rfl hown (jk hw 8 rfl) (jk hw 9 rfl) (jk hw 10 rfl) (jk hw 7 rfl) (rm_os lL Z a0 hw [] b1_ np pb h1_ n0 (Nat.le_trans Z0 K1_.1) A1_ F1__size F1__pages F1__pageCount F1__pageBytes Zp fc4_ ge_b1_) (a := b1_) e1_ own_pd3 [(.int pb)] [(.ref b1_)] (hC at_79) rfl rfl (by rw [hml]; rfl) (by decide) 1 (Nat.le_of_eq rfl) (by decide) (by decide) (by decide : 1 + 0 ≤ _) (by decide : 4 + 0 ≤ _) fun vv7_ T7_ L7_ X7_ hQ7_ => ?_
  obtain ⟨rfl, N7_q, p7__0, p7__1, p7__2, p7__3, p7__4, p7__5⟩ := hQ7_
  have N7_ := Fr.app N0 N7_q
  have fc8_ := fc4_.keep p7__0 (allS ge_b1_ all0)
  have fc9_ := fc5_.keep p7__0 (ninS ne2_ nin0)
  have fc10_ := fc6_.keep p7__0 (ninS ne3_ nin0)
  have K7_ := K1_.trans p7__0 (allS (Or.inr sz_b1_) all0)
  let ll14 : Array Slot := #[vJ q1, vS, vJ q2, vS, vJ q3, vS, vI p4, vJ q5, vS, vI p6, vI pb, vJ av, vS, vJ bv, vS, vJ ln, vS, vJ cv, vS, vJ dv, vS, vI kv, vR b1_, vU, vU, vU, vU, vU, vU, vU]
  refine jg T7_ mM 87 ll14 [(.int (1 : Int32)), (.int kv)] (fun tT kK => ?_) ?_
  · refine XS.astore X7_.here hx rfl (hC at_82) rfl rfl (l' := ll14) rfl ?_
    refine XS.iload X7_.here hx rfl (hC at_84) rfl ?_
    refine XS.iconst X7_.here hx rfl (hC at_86) ?_
    exact kK
  have jp12_ : ∀ (zs : Int64) (pa : Addr) (pc : Int32) (Tj12_ : State) (Lj12_ : List Loc) (hj12_ : Heap), Stand pP lL eE room_1 sS mM #[(.long q1), (.long q2), (.long q3), (.int p4), (.long q5), (.int p6)] below meth cC Tj12_ Lj12_ 13 94 → Tj12_.heap = hj12_ → Keep h0 hj12_ ([] : List Addr) → (Old Z n0 hj12_) → (Arv Z hj12_ np kp (.object "com/example/portion/portion/server/OffsetSet$Page") (0 : Int32) [] .null) → (jE0 Z hj12_ b1_) → (jF9 Z hj12_ b1_ (.long zs)) → (jF1 Z hj12_ b1_ (.ref pa)) → (jF0 Z hj12_ b1_ (.int pc)) → (jF10 Z hj12_ b1_ (.int pb)) → Fr n0 Lj12_ → own_Fin pP eE below (own_P sS room_1 (Q_rm0 Z q1 q2 q3 p4 q5 p6 np nb kp kn h0 n0)) (Tj12_.setTop (mkF mM 128 #[.val (.long q1), .second, .val (.long q2), .second, .val (.long q3), .second, .val (.int p4), .val (.long q5), .second, .val (.int p6), .val (.int pb), .val (.long av), .second, .val (.long bv), .second, .val (.long ln), .second, .val (.long cv), .second, .val (.long dv), .second, .val (.int kv), .val (.ref b1_), .unset, .unset, .unset, .unset, .unset, .unset, .unset] [])) := by
    intro zs pa pc Tj12_ Lj12_ hj12_  Xj12_ ej12_ Kj12_ fj12__0 fj12__1 fj12__2 fj12__3 fj12__4 fj12__5 fj12__6 Nj12_
    refine jg Tj12_ mM 130 ll14 [(.ref b1_)] (fun tT kK => ?_) ?_
    · refine XS.aload Xj12_.here hx rfl (hC at_128) rfl rfl ?_
      exact kK
    refine jv Xj12_ hx hZ (y := jy20) hown (jk hw 135 rfl) (jk hw 136 rfl) (jk hw 138 rfl) (jk hw 137 rfl) (jk hw 139 rfl) (jk hw 7 rfl) (rm_clr lL Z a0 hw [] b1_ np pa zs pc pb hj12_ n0 (Nat.le_trans Z0 Kj12_.1) fj12__2 fj12__3 fj12__4 fj12__5 fj12__6 Zp fj12__0 ge_b1_) fj12__2 ej12_ own_pd5 [] [] (hC at_130) rfl rfl (by rw [hml]; rfl) (by decide) 0 (Nat.le_of_eq rfl) (by decide) (by decide) (by decide : 13 + 0 ≤ _) (by decide : 94 + 0 ≤ _) fun vv13_ T13_ L13_ X13_ hQ13_ => ?_
    obtain ⟨rfl, N13_q, p13__0, p13__1, p13__2, p13__3, p13__4, p13__5⟩ := hQ13_
    have N13_ := Fr.app Nj12_ N13_q
    have fc14_ := fj12__0.keep p13__0 (allS ge_b1_ all0)
    have fc15_ := fj12__1.keep p13__0 (ninS ne2_ nin0)
    have K13_ := Kj12_.trans p13__0 (allS (Or.inr sz_b1_) all0)
    refine jg T13_ mM 135 ll14 [(.ref b1_)] (fun tT kK => ?_) ?_
    · refine XS.aload X13_.here hx rfl (hC at_133) rfl rfl ?_
      exact kK
    refine jv X13_ hx hZ (y := jy21) hown (jk hw 140 rfl) (jk hw 141 rfl) (jk hw 143 rfl) (jk hw 142 rfl) (jk hw 144 rfl) (jk hw 7 rfl) (rm_emp lL Z a0 hw [] b1_ T13_.heap n0 (Nat.le_trans Z0 K13_.1) p13__2) p13__1 rfl own_pd13 [] [] (hC at_135) rfl rfl (by rw [hml]; rfl) (by decide) 0 (Nat.le_of_eq rfl) (by decide) (by decide) (by decide : 13 + 0 ≤ _) (by decide : 94 + 0 ≤ _) fun vv17_ T17_ L17_ X17_ hQ17_ => ?_
    obtain ⟨rfl, N17_q, p17__0⟩ := hQ17_
    have N17_ := Fr.app N13_ N17_q
    let ll15 : Array Slot := #[vJ q1, vS, vJ q2, vS, vJ q3, vS, vI p4, vJ q5, vS, vI p6, vI pb, vJ av, vS, vJ bv, vS, vJ ln, vS, vJ cv, vS, vJ dv, vS, vI kv, vR b1_, vI 1, vU, vU, vU, vU, vU, vU]
    refine jg T17_ mM 144 ll15 [(.long av), (.ref b1_)] (fun tT kK => ?_) ?_
    · refine XS.istore X17_.here hx rfl (hC at_138) rfl (l' := ll15) rfl ?_
      refine XS.aload X17_.here hx rfl (hC at_140) rfl rfl ?_
      refine XS.lload X17_.here hx rfl (hC at_142) rfl ?_
      exact kK
    refine jv X17_ hx hZ (y := jy22) hown (jk hw 145 rfl) (jk hw 146 rfl) (jk hw 148 rfl) (jk hw 147 rfl) (jk hw 149 rfl) (jk hw 7 rfl) (rm_co0 lL Z a0 hw [] b1_ av T13_.heap n0 (Nat.le_trans Z0 K13_.1) p13__1 p13__4) p13__1 p17__0 own_pd12 [(.long av)] [] (hC at_144) rfl rfl (by rw [hml]; rfl) (by decide) 0 (Nat.le_of_eq rfl) (by decide) (by decide) (by decide : 13 + 0 ≤ _) (by decide : 94 + 0 ≤ _) fun vv18_ T18_ L18_ X18_ hQ18_ => ?_
    obtain ⟨rfl, N18_q, p18__0⟩ := hQ18_
    have N18_ := Fr.app N17_ N18_q
    let ll16 : Array Slot := #[vJ q1, vS, vJ q2, vS, vJ q3, vS, vI p4, vJ q5, vS, vI p6, vI pb, vJ av, vS, vJ bv, vS, vJ ln, vS, vJ cv, vS, vJ dv, vS, vI kv, vR b1_, vI 1, vI 0, vU, vU, vU, vU, vU]
    refine jg T18_ mM 153 ll16 [(.long dv), (.ref b1_)] (fun tT kK => ?_) ?_
    · refine XS.istore X18_.here hx rfl (hC at_147) rfl (l' := ll16) rfl ?_
      refine XS.aload X18_.here hx rfl (hC at_149) rfl rfl ?_
      refine XS.lload X18_.here hx rfl (hC at_151) rfl ?_
      exact kK
    refine jv X18_ hx hZ (y := jy19) hown (jk hw 20 rfl) (jk hw 21 rfl) (jk hw 23 rfl) (jk hw 22 rfl) (jk hw 24 rfl) (jk hw 7 rfl) (rm_add0 lL Z a0 hw [] b1_ np nb kp pb dv T13_.heap n0 (Nat.le_trans Z0 K13_.1) p13__1 p13__2 p13__3 p13__4 p13__5 Zb fc14_ fc15_ ge_b1_ (Ne.symm ne2_) (own_ng (by omega)) (own_lt (by omega))) p13__1 p18__0 own_pd0 [(.long dv)] [] (hC at_153) rfl rfl (by rw [hml]; rfl) (by decide) 0 (Nat.le_of_eq rfl) (by decide) (by decide) (by decide : 13 + 3 ≤ _) (by decide : 94 + 13 ≤ _) fun vv19_ T19_ L19_ X19_ hQ19_ => ?_
    obtain ⟨pg_19_, pa_19_, kq_19_, rfl, N19_q, p19__0, p19__1, p19__2, p19__3, p19__4, p19__5, p19__6, p19__7, p19__8, p19__9, p19__10, p19__11, p19__12, p19__13, p19__14, p19__15, p19__16, p19__17, p19__18, p19__19, p19__20, p19__21⟩ := hQ19_
    have N19_ := Fr.app N18_ N19_q
    have K19_ := K13_.trans p19__0 (allS (Or.inr sz_b1_) all0)
    refine jg T19_ mM 158 ll16 [(.ref b1_)] (fun tT kK => ?_) ?_
    · refine XS.aload X19_.here hx rfl (hC at_156) rfl rfl ?_
      exact kK
    refine jv X19_ hx hZ (y := jy23) hown (jk hw 150 rfl) (jk hw 151 rfl) (jk hw 153 rfl) (jk hw 152 rfl) (jk hw 154 rfl) (jk hw 7 rfl) (rm_sz lL Z a0 hw [] b1_ (1 : Int64) T19_.heap n0 (Nat.le_trans Z0 K19_.1) p19__6) p19__5 rfl own_pd4 [] [] (hC at_158) rfl rfl (by rw [hml]; rfl) (by decide) 0 (Nat.le_of_eq rfl) (by decide) (by decide) (by decide : 16 + 0 ≤ _) (by decide : 107 + 0 ≤ _) fun vv27_ T27_ L27_ X27_ hQ27_ => ?_
    obtain ⟨rfl, N27_q, p27__0⟩ := hQ27_
    have N27_ := Fr.app N19_ N27_q
    let ll17 : Array Slot := #[vJ q1, vS, vJ q2, vS, vJ q3, vS, vI p4, vJ q5, vS, vI p6, vI pb, vJ av, vS, vJ bv, vS, vJ ln, vS, vJ cv, vS, vJ dv, vS, vI kv, vR b1_, vI 1, vI 0, vJ 1, vS, vU, vU, vU]
    refine jg T27_ mM 165 ll17 [(.ref b1_)] (fun tT kK => ?_) ?_
    · refine XS.lstore X27_.here hx rfl (hC at_161) rfl (l' := ll17) rfl ?_
      refine XS.aload X27_.here hx rfl (hC at_163) rfl rfl ?_
      exact kK
    refine jv X27_ hx hZ (y := jy24) hown (jk hw 155 rfl) (jk hw 156 rfl) (jk hw 158 rfl) (jk hw 157 rfl) (jk hw 159 rfl) (jk hw 7 rfl) (rm_fi lL Z a0 hw [] b1_ pa_19_ pg_19_ kq_19_ dv T19_.heap n0 (Nat.le_trans Z0 K19_.1) p19__6 p19__7 p19__21 p19__12) p19__5 p27__0 own_pd4 [] [] (hC at_165) rfl rfl (by rw [hml]; rfl) (by decide) 0 (Nat.le_of_eq rfl) (by decide) (by decide) (by decide : 16 + 0 ≤ _) (by decide : 107 + 0 ≤ _) fun vv28_ T28_ L28_ X28_ hQ28_ => ?_
    obtain ⟨rfl, N28_q, p28__0⟩ := hQ28_
    have N28_ := Fr.app N27_ N28_q
    let ll18 : Array Slot := #[vJ q1, vS, vJ q2, vS, vJ q3, vS, vI p4, vJ q5, vS, vI p6, vI pb, vJ av, vS, vJ bv, vS, vJ ln, vS, vJ cv, vS, vJ dv, vS, vI kv, vR b1_, vI 1, vI 0, vJ 1, vS, vJ dv, vS, vU]
    refine jg T28_ mM 174 ll18 [(.long bv), (.ref b1_)] (fun tT kK => ?_) ?_
    · refine XS.lstore X28_.here hx rfl (hC at_168) rfl (l' := ll18) rfl ?_
      refine XS.aload X28_.here hx rfl (hC at_170) rfl rfl ?_
      refine XS.lload X28_.here hx rfl (hC at_172) rfl ?_
      exact kK
    by_cases hc29_ : bv < dv
    · refine jv X28_ hx hZ (y := jy22) hown (jk hw 145 rfl) (jk hw 146 rfl) (jk hw 148 rfl) (jk hw 147 rfl) (jk hw 149 rfl) (jk hw 7 rfl) (rm_cn lL Z a0 hw [] b1_ pa_19_ pg_19_ kq_19_ bv dv T19_.heap n0 (Nat.le_trans Z0 K19_.1) p19__5 p19__8 p19__7 p19__21 p19__12 hc29_) p19__5 p28__0 own_pd12 [(.long bv)] [] (hC at_174) rfl rfl (by rw [hml]; rfl) (by decide) 0 (Nat.le_of_eq rfl) (by decide) (by decide) (by decide : 16 + 0 ≤ _) (by decide : 107 + 0 ≤ _) fun vv30_ T30_ L30_ X30_ hQ30_ => ?_
      obtain ⟨rfl, N30_q, p30__0⟩ := hQ30_
      have N30_ := Fr.app N28_ N30_q
      let ll19 : Array Slot := #[vJ q1, vS, vJ q2, vS, vJ q3, vS, vI p4, vJ q5, vS, vI p6, vI pb, vJ av, vS, vJ bv, vS, vJ ln, vS, vJ cv, vS, vJ dv, vS, vI kv, vR b1_, vI 1, vI 0, vJ 1, vS, vJ dv, vS, vI 0]
      refine jg T30_ mM 227 ll19 [(.int (1 : Int32))] (fun tT kK => ?_) ?_
      · refine XS.istore X30_.here hx rfl (hC at_177) rfl (l' := ll19) rfl ?_
        refine XS.iload X30_.here hx rfl (hC at_179) rfl ?_
        refine XS.ifNo X30_.here hx rfl (hC at_181) rfl ((if0 _ _).trans (feq ((by decide) : ¬ ((1 : Int32) = (0 : Int32)))).1) ?_
        refine XS.iload X30_.here hx rfl (hC at_184) rfl ?_
        refine XS.ifNo X30_.here hx rfl (hC at_186) rfl ((if0 _ _).trans (teq ((by decide) : (0 : Int32) = (0 : Int32))).2) ?_
        refine XS.lload X30_.here hx rfl (hC at_189) rfl ?_
        refine XS.lconst X30_.here hx rfl (hC at_191) ?_
        refine XS.lcmp X30_.here hx rfl (hC at_192) rfl ?_
        refine XS.ifNo X30_.here hx rfl (hC at_193) rfl ((if0 _ _).trans (teq ((lw_eq (1 : Int64) (1 : Int64)).mpr ((by decide) : (1 : Int64) = (1 : Int64)))).2) ?_
        refine XS.lload X30_.here hx rfl (hC at_196) rfl ?_
        refine XS.lload X30_.here hx rfl (hC at_198) rfl ?_
        refine XS.lcmp X30_.here hx rfl (hC at_200) rfl ?_
        refine XS.ifNo X30_.here hx rfl (hC at_201) rfl ((if0 _ _).trans (teq ((lw_eq dv dv).mpr (rfl : dv = dv))).2) ?_
        refine XS.iload X30_.here hx rfl (hC at_204) rfl ?_
        refine XS.lload X30_.here hx rfl (hC at_206) rfl ?_
        refine XS.lload X30_.here hx rfl (hC at_208) rfl ?_
        refine XS.lcmp X30_.here hx rfl (hC at_210) rfl ?_
        show Steps pP.tables eE below (T30_.setTop (mkF mM 211 ll19 [(.int (lcmpW bv dv)), (.int (0 : Int32))])) tT
        refine XS.ifYes X30_.here hx rfl (pc0 := 211) (pc' := 218) rfl (hC at_211) rfl ((if0 _ _).trans (feq (mt (lw_eq bv dv).mp ((fun q => absurd hc29_ (q ▸ Int64.lt_irrefl (a := dv))) : ¬ (bv = dv)))).2) (by decide) (by decide) ?_
        refine XS.iconst X30_.here hx rfl (hC at_218) ?_
        refine XS.icmpNo X30_.here hx rfl (hC at_219) rfl (teq ((by decide) : (0 : Int32) = (0 : Int32))).2 ?_
        refine XS.iconst X30_.here hx rfl (hC at_222) ?_
        refine XS.goto X30_.here hx rfl (pc0 := 223) (pc' := 227) rfl (hC at_223) (by decide) (by decide) ?_
        exact kK
      exact own_rL X30_ hx hlk hre (by simp) (hC at_227) (w := (.int (1 : Int32))) rfl p30__0 (by decide) (by decide) ⟨rfl, N30_⟩
    · refine jv X28_ hx hZ (y := jy22) hown (jk hw 145 rfl) (jk hw 146 rfl) (jk hw 148 rfl) (jk hw 147 rfl) (jk hw 149 rfl) (jk hw 7 rfl) (rm_cy lL Z a0 hw [] b1_ pa_19_ pg_19_ nb kq_19_ bv dv (dv + (1 : Int64)) T19_.heap n0 (Nat.le_trans Z0 K19_.1) p19__5 p19__8 p19__7 p19__21 p19__10 p19__11 p19__12 p19__13 p19__14 p19__15 p19__16 p19__17 p19__18 p19__19 p19__20 hc29_) p19__5 p28__0 own_pd12 [(.long bv)] [] (hC at_174) rfl rfl (by rw [hml]; rfl) (by decide) 0 (Nat.le_of_eq rfl) (by decide) (by decide) (by decide : 16 + 1 ≤ _) (by decide : 107 + 4 ≤ _) fun vv31_ T31_ L31_ X31_ hQ31_ => ?_
      obtain ⟨rfl, N31_q, p31__0⟩ := hQ31_
      have N31_ := Fr.app N28_ N31_q
      have K31_ := K19_.trans p31__0 all0
      let ll20 : Array Slot := #[vJ q1, vS, vJ q2, vS, vJ q3, vS, vI p4, vJ q5, vS, vI p6, vI pb, vJ av, vS, vJ bv, vS, vJ ln, vS, vJ cv, vS, vJ dv, vS, vI kv, vR b1_, vI 1, vI 0, vJ 1, vS, vJ dv, vS, vI (if bv < (dv + (1 : Int64)) then (1 : Int32) else (0 : Int32))]
      refine jg T31_ mM 211 ll20 [(.int (lcmpW bv dv)), (.int (if bv < (dv + (1 : Int64)) then (1 : Int32) else (0 : Int32)))] (fun tT kK => ?_) ?_
      · refine XS.istore X31_.here hx rfl (hC at_177) rfl (l' := ll20) rfl ?_
        refine XS.iload X31_.here hx rfl (hC at_179) rfl ?_
        refine XS.ifNo X31_.here hx rfl (hC at_181) rfl ((if0 _ _).trans (feq ((by decide) : ¬ ((1 : Int32) = (0 : Int32)))).1) ?_
        refine XS.iload X31_.here hx rfl (hC at_184) rfl ?_
        refine XS.ifNo X31_.here hx rfl (hC at_186) rfl ((if0 _ _).trans (teq ((by decide) : (0 : Int32) = (0 : Int32))).2) ?_
        refine XS.lload X31_.here hx rfl (hC at_189) rfl ?_
        refine XS.lconst X31_.here hx rfl (hC at_191) ?_
        refine XS.lcmp X31_.here hx rfl (hC at_192) rfl ?_
        refine XS.ifNo X31_.here hx rfl (hC at_193) rfl ((if0 _ _).trans (teq ((lw_eq (1 : Int64) (1 : Int64)).mpr ((by decide) : (1 : Int64) = (1 : Int64)))).2) ?_
        refine XS.lload X31_.here hx rfl (hC at_196) rfl ?_
        refine XS.lload X31_.here hx rfl (hC at_198) rfl ?_
        refine XS.lcmp X31_.here hx rfl (hC at_200) rfl ?_
        refine XS.ifNo X31_.here hx rfl (hC at_201) rfl ((if0 _ _).trans (teq ((lw_eq dv dv).mpr (rfl : dv = dv))).2) ?_
        refine XS.iload X31_.here hx rfl (hC at_204) rfl ?_
        refine XS.lload X31_.here hx rfl (hC at_206) rfl ?_
        refine XS.lload X31_.here hx rfl (hC at_208) rfl ?_
        refine XS.lcmp X31_.here hx rfl (hC at_210) rfl ?_
        exact kK
      by_cases hc211_51_ : bv = dv
      · refine jg T31_ mM 227 ll20 [(.int (1 : Int32))] (fun tT kK => ?_) ?_
        · refine XS.ifNo X31_.here hx rfl (hC at_211) rfl ((if0 _ _).trans (teq ((lw_eq bv dv).mpr (hc211_51_ : bv = dv))).2) ?_
          refine XS.iconst X31_.here hx rfl (hC at_214) ?_
          refine XS.goto X31_.here hx rfl (pc0 := 215) (pc' := 219) rfl (hC at_215) (by decide) (by decide) ?_
          refine XS.icmpNo X31_.here hx rfl (hC at_219) rfl (teq ((if_pos ((own_beq hc29_ hd).mpr hc211_51_)) : (if bv < (dv + (1 : Int64)) then (1 : Int32) else (0 : Int32)) = (1 : Int32))).2 ?_
          refine XS.iconst X31_.here hx rfl (hC at_222) ?_
          refine XS.goto X31_.here hx rfl (pc0 := 223) (pc' := 227) rfl (hC at_223) (by decide) (by decide) ?_
          exact kK
        exact own_rL X31_ hx hlk hre (by simp) (hC at_227) (w := (.int (1 : Int32))) rfl rfl (by decide) (by decide) ⟨rfl, N31_⟩
      · refine jg T31_ mM 227 ll20 [(.int (1 : Int32))] (fun tT kK => ?_) ?_
        · refine XS.ifYes X31_.here hx rfl (pc0 := 211) (pc' := 218) rfl (hC at_211) rfl ((if0 _ _).trans (feq (mt (lw_eq bv dv).mp (hc211_51_ : ¬ (bv = dv)))).2) (by decide) (by decide) ?_
          refine XS.iconst X31_.here hx rfl (hC at_218) ?_
          refine XS.icmpNo X31_.here hx rfl (hC at_219) rfl (teq ((if_neg (fun q => hc211_51_ ((own_beq hc29_ hd).mp q))) : (if bv < (dv + (1 : Int64)) then (1 : Int32) else (0 : Int32)) = (0 : Int32))).2 ?_
          refine XS.iconst X31_.here hx rfl (hC at_222) ?_
          refine XS.goto X31_.here hx rfl (pc0 := 223) (pc' := 227) rfl (hC at_223) (by decide) (by decide) ?_
          exact kK
        exact own_rL X31_ hx hlk hre (by simp) (hC at_227) (w := (.int (1 : Int32))) rfl rfl (by decide) (by decide) ⟨rfl, N31_⟩
  by_cases hc87_52_ : kv < (1 : Int32)
  · refine jg T7_ mM 128 ll14 [] (fun tT kK => ?_) ?_
    · refine XS.icmpYes X7_.here hx rfl (pc0 := 87) (pc' := 97) rfl (hC at_87) rfl (tlt (hc87_52_ : kv < (1 : Int32))).1 (by decide) (by decide) ?_
      refine XS.iload X7_.here hx rfl (hC at_97) rfl ?_
      refine XS.iconst X7_.here hx rfl (hC at_99) ?_
      refine XS.icmpYes X7_.here hx rfl (pc0 := 100) (pc' := 115) rfl (hC at_100) rfl (tlt (own_k12 hc87_52_ : kv < (2 : Int32))).1 (by decide) (by decide) ?_
      refine XS.iload X7_.here hx rfl (hC at_115) rfl ?_
      refine XS.iconst X7_.here hx rfl (hC at_117) ?_
      refine XS.icmpYes X7_.here hx rfl (pc0 := 118) (pc' := 128) rfl (hC at_118) rfl (tlt (own_k23 (own_k12 hc87_52_) : kv < (3 : Int32))).1 (by decide) (by decide) ?_
      exact kK
    exact jp12_ (0 : Int64) np (0 : Int32) _ _ _  (X7_.more (by decide) (by decide)) rfl K7_ fc8_ fc9_ p7__1 p7__2 p7__3 p7__4 p7__5 N7_
  · refine jg T7_ mM 94 ll14 [(.long av), (.ref b1_)] (fun tT kK => ?_) ?_
    · refine XS.icmpNo X7_.here hx rfl (hC at_87) rfl (flt (hc87_52_ : ¬ (kv < (1 : Int32)))).1 ?_
      refine XS.aload X7_.here hx rfl (hC at_90) rfl rfl ?_
      refine XS.lload X7_.here hx rfl (hC at_92) rfl ?_
      exact kK
    refine jv X7_ hx hZ (y := jy19) hown (jk hw 20 rfl) (jk hw 21 rfl) (jk hw 23 rfl) (jk hw 22 rfl) (jk hw 24 rfl) (jk hw 7 rfl) (rm_add0 lL Z a0 hw [] b1_ np nb kp pb av T7_.heap n0 (Nat.le_trans Z0 K7_.1) p7__1 p7__2 p7__3 p7__4 p7__5 Zb fc8_ fc9_ ge_b1_ (Ne.symm ne2_) (own_ng (by omega)) (own_lt (by omega))) p7__1 rfl own_pd0 [(.long av)] [] (hC at_94) rfl rfl (by rw [hml]; rfl) (by decide) 0 (Nat.le_of_eq rfl) (by decide) (by decide) (by decide : 1 + 3 ≤ _) (by decide : 4 + 13 ≤ _) fun vv53_ T53_ L53_ X53_ hQ53_ => ?_
    obtain ⟨pg_53_, pa_53_, kq_53_, rfl, N53_q, p53__0, p53__1, p53__2, p53__3, p53__4, p53__5, p53__6, p53__7, p53__8, p53__9, p53__10, p53__11, p53__12, p53__13, p53__14, p53__15, p53__16, p53__17, p53__18, p53__19, p53__20, p53__21⟩ := hQ53_
    have N53_ := Fr.app N7_ N53_q
    have sz_pg_53_ : h0.size ≤ pg_53_ := Nat.le_trans K7_.1 p53__1
    have ge_pg_53_ : n0 ≤ pg_53_ := Nat.le_trans Z0 sz_pg_53_
    have ne54_ : np ≠ pg_53_ := Nat.ne_of_lt (Nat.lt_of_lt_of_le fc9_.lt p53__1)
    have ne55_ : nb ≠ pg_53_ := Nat.ne_of_lt (Nat.lt_of_lt_of_le fc10_.lt p53__1)
    have ne56_ : b1_ ≠ pg_53_ := Nat.ne_of_lt (Nat.lt_of_lt_of_le p7__1.lt p53__1)
    have sz_pa_53_ : h0.size ≤ pa_53_ := Nat.le_trans K7_.1 p53__2
    have ge_pa_53_ : n0 ≤ pa_53_ := Nat.le_trans Z0 sz_pa_53_
    have ne57_ : np ≠ pa_53_ := Nat.ne_of_lt (Nat.lt_of_lt_of_le fc9_.lt p53__2)
    have ne58_ : nb ≠ pa_53_ := Nat.ne_of_lt (Nat.lt_of_lt_of_le fc10_.lt p53__2)
    have ne59_ : b1_ ≠ pa_53_ := Nat.ne_of_lt (Nat.lt_of_lt_of_le p7__1.lt p53__2)
    have fc60_ := fc8_.keep p53__0 (allS ge_b1_ all0)
    have fc61_ := fc9_.keep p53__0 (ninS ne2_ nin0)
    have fc62_ := fc10_.keep p53__0 (ninS ne3_ nin0)
    have K53_ := K7_.trans p53__0 (allS (Or.inr sz_b1_) all0)
    refine jg T53_ mM 100 ll14 [(.int (2 : Int32)), (.int kv)] (fun tT kK => ?_) ?_
    · refine XS.iload X53_.here hx rfl (hC at_97) rfl ?_
      refine XS.iconst X53_.here hx rfl (hC at_99) ?_
      exact kK
    by_cases hc100_64_ : kv < (2 : Int32)
    · refine jg T53_ mM 128 ll14 [] (fun tT kK => ?_) ?_
      · refine XS.icmpYes X53_.here hx rfl (pc0 := 100) (pc' := 115) rfl (hC at_100) rfl (tlt (hc100_64_ : kv < (2 : Int32))).1 (by decide) (by decide) ?_
        refine XS.iload X53_.here hx rfl (hC at_115) rfl ?_
        refine XS.iconst X53_.here hx rfl (hC at_117) ?_
        refine XS.icmpYes X53_.here hx rfl (pc0 := 118) (pc' := 128) rfl (hC at_118) rfl (tlt (own_k23 hc100_64_ : kv < (3 : Int32))).1 (by decide) (by decide) ?_
        exact kK
      exact jp12_ (1 : Int64) pa_53_ (1 : Int32) _ _ _  (X53_.more (by decide) (by decide)) rfl K53_ fc60_ fc61_ p53__5 p53__6 p53__7 p53__8 p53__9 N53_
    · refine jg T53_ mM 112 ll14 [(.long (bv + ln)), (.long bv), (.ref b1_)] (fun tT kK => ?_) ?_
      · refine XS.icmpNo X53_.here hx rfl (hC at_100) rfl (flt (hc100_64_ : ¬ (kv < (2 : Int32)))).1 ?_
        refine XS.aload X53_.here hx rfl (hC at_103) rfl rfl ?_
        refine XS.lload X53_.here hx rfl (hC at_105) rfl ?_
        refine XS.lload X53_.here hx rfl (hC at_107) rfl ?_
        refine XS.lload X53_.here hx rfl (hC at_109) rfl ?_
        refine XS.ladd X53_.here hx rfl (hC at_111) rfl ?_
        exact kK
      refine jv X53_ hx hZ (y := jy18) hown (jk hw 93 rfl) (jk hw 26 rfl) (jk hw 28 rfl) (jk hw 27 rfl) (jk hw 29 rfl) (jk hw 7 rfl) (rm_ar1 lL Z a0 hw [] b1_ pa_53_ pg_53_ nb kq_53_ kn pb (1 : Int64) av (av + (1 : Int64)) (0 : Int64) (0 : Int64) (0 : Int64) bv (bv + ln) (1 : Int64) T53_.heap n0 (Nat.le_trans Z0 K53_.1) p53__5 p53__6 p53__7 p53__8 p53__9 p53__10 p53__11 p53__12 p53__13 p53__14 p53__15 p53__16 p53__17 p53__18 p53__19 p53__20 fc62_ p53__21 (by decide) (own_lt (by omega)) (by omega) (by omega) hp ge_b1_ ge_pg_53_ ne59_ ne56_ (Ne.symm ne3_) (Ne.symm p53__3) (Ne.symm ne58_) (Ne.symm ne55_) (own_ng (by omega)) (own_lt (by omega)) (own_nl (by omega)) (own_nl (by omega)) (by decide)) p53__5 rfl own_pd7 [(.long bv), (.long (bv + ln))] [] (hC at_112) rfl rfl (by rw [hml]; rfl) (by decide) 0 (Nat.le_of_eq rfl) (by decide) (by decide) (by decide : 4 + 1 ≤ _) (by decide : 17 + 28 ≤ _) fun vv65_ T65_ L65_ X65_ hQ65_ => ?_
      obtain ⟨ba_65_, kb_65_, en_65_, vs_65_, rfl, N65_q, p65__0, p65__1, p65__2, p65__3, p65__4, p65__5, p65__6, p65__7, p65__8, p65__9, p65__10, p65__11, p65__12, p65__13, p65__14, p65__15, p65__16, p65__17, p65__18, p65__19, p65__20⟩ := hQ65_
      have N65_ := Fr.app N53_ N65_q
      have sz_ba_65_ : h0.size ≤ ba_65_ := Nat.le_trans K53_.1 p65__1
      have ge_ba_65_ : n0 ≤ ba_65_ := Nat.le_trans Z0 sz_ba_65_
      have ne66_ : np ≠ ba_65_ := Nat.ne_of_lt (Nat.lt_of_lt_of_le fc61_.lt p65__1)
      have ne68_ : b1_ ≠ ba_65_ := Nat.ne_of_lt (Nat.lt_of_lt_of_le p53__5.lt p65__1)
      have ne69_ : pg_53_ ≠ ba_65_ := Nat.ne_of_lt (Nat.lt_of_lt_of_le p53__10.lt p65__1)
      have ne70_ : pa_53_ ≠ ba_65_ := Nat.ne_of_lt (Nat.lt_of_lt_of_le p53__21.lt p65__1)
      have fc71_ := fc60_.keep p65__0 (allS ge_b1_ (allS ge_pg_53_ all0))
      have fc72_ := fc61_.keep p65__0 (ninS ne2_ (ninS ne54_ nin0))
      have fc76_ := p53__21.keep p65__0 (ninS (Ne.symm ne59_) (ninS (Ne.symm p53__3) nin0))
      have K65_ := K53_.trans p65__0 (allS (Or.inr sz_b1_) (allS (Or.inr sz_pg_53_) all0))
      refine jg T65_ mM 118 ll14 [(.int (3 : Int32)), (.int kv)] (fun tT kK => ?_) ?_
      · refine XS.iload X65_.here hx rfl (hC at_115) rfl ?_
        refine XS.iconst X65_.here hx rfl (hC at_117) ?_
        exact kK
      by_cases hc118_77_ : kv < (3 : Int32)
      · refine jg T65_ mM 128 ll14 [] (fun tT kK => ?_) ?_
        · refine XS.icmpYes X65_.here hx rfl (pc0 := 118) (pc' := 128) rfl (hC at_118) rfl (tlt (hc118_77_ : kv < (3 : Int32))).1 (by decide) (by decide) ?_
          exact kK
        exact jp12_ ((1 : Int64) + (((1 : Int64) + ((bv + ln) - bv)) - (1 : Int64))) pa_53_ (1 : Int32) _ _ _  (X65_.more (by decide) (by decide)) rfl K65_ fc71_ fc72_ p65__4 p65__5 p65__6 p65__7 p65__8 N65_
      · refine jg T65_ mM 125 ll14 [(.long cv), (.ref b1_)] (fun tT kK => ?_) ?_
        · refine XS.icmpNo X65_.here hx rfl (hC at_118) rfl (flt (hc118_77_ : ¬ (kv < (3 : Int32)))).1 ?_
          refine XS.aload X65_.here hx rfl (hC at_121) rfl rfl ?_
          refine XS.lload X65_.here hx rfl (hC at_123) rfl ?_
          exact kK
        refine jv X65_ hx hZ (y := jy19) hown (jk hw 20 rfl) (jk hw 21 rfl) (jk hw 23 rfl) (jk hw 22 rfl) (jk hw 24 rfl) (jk hw 7 rfl) (rm_add2 lL Z a0 hw [] b1_ pa_53_ pg_53_ ba_65_ nb kq_53_ kb_65_ pb en_65_ ((1 : Int64) + ((bv + ln) - bv)) av (av + (1 : Int64)) (bv - (av + (1 : Int64))) bv (bv + ln) cv ((1 : Int64) + (((1 : Int64) + ((bv + ln) - bv)) - (1 : Int64))) vs_65_ T65_.heap n0 (Nat.le_trans Z0 K65_.1) p65__4 p65__5 p65__6 p65__7 p65__8 p65__9 p65__10 p65__11 p65__12 p65__13 p65__14 p65__15 p65__16 p65__17 p65__18 p65__19 p65__20 p65__2 p65__3 fc76_ p53__4 Zb fc71_ (own_nz (by omega)) (own_lt (by omega)) (by omega) (by omega) ge_b1_ ge_pa_53_ ge_pg_53_ ge_ba_65_ ne59_ ne56_ ne68_ (Ne.symm p53__3) ne70_ ne69_ (own_ng (by omega)) (own_lt (by omega)) (own_nl (by omega)) (own_nl (by omega)) (own_nl (by omega)) (own_nz (by omega))) p65__4 rfl own_pd0 [(.long cv)] [] (hC at_125) rfl rfl (by rw [hml]; rfl) (by decide) 0 (Nat.le_of_eq rfl) (by decide) (by decide) (by decide : 5 + 3 ≤ _) (by decide : 45 + 18 ≤ _) fun vv78_ T78_ L78_ X78_ hQ78_ => ?_
        obtain ⟨z'_78_, c'_78_, rfl, N78_q, p78__0, p78__1, p78__2, p78__3, p78__4, p78__5⟩ := hQ78_
        have N78_ := Fr.app N65_ N78_q
        have fc79_ := fc71_.keep p78__0 (allS ge_b1_ (allS ge_pg_53_ (allS ge_ba_65_ (allS ge_pa_53_ all0))))
        have fc80_ := fc72_.keep p78__0 (ninS ne2_ (ninS ne54_ (ninS ne66_ (ninS ne57_ nin0))))
        have K78_ := K65_.trans p78__0 (allS (Or.inr sz_b1_) (allS (Or.inr sz_pg_53_) (allS (Or.inr sz_ba_65_) (allS (Or.inr sz_pa_53_) all0))))
        exact jp12_ z'_78_ pa_53_ c'_78_ _ _ _  (X78_.more (by decide) (by decide)) rfl K78_ fc79_ fc80_ p78__1 p78__2 p78__3 p78__4 p78__5 N78_
set_option maxRecDepth 65536 in
set_option maxHeartbeats 40000000 in
theorem comes_1 {Post : Tables → Env → Array Value → State → Outcome → State → Prop} (hpost : ∀ tb e args s v u, (limb_1_1.after args s (.returned v) u = true ∧ limb_1_2.after args s (.returned v) u = true ∧ True) → FrameEnd s (.returned v) u (Jvm.fieldLocs frame_1_writes args s ++ Jvm.arrayLocs frame_1_arrays args s ++ Jvm.staticLocs frame_1_statics s) 32 256 → Post tb e args s (.returned v) u) :
    ArmFor flags0 classFile x code maxLocals ret World_1 tables_1 room_1 Calls_1 rest_1 Pre_1 Post := by
  intro l hfl _ _ p e ha hc hk s m args below hf hA hF happ hP
  obtain ⟨hcalls, hrest, hpre⟩ := hP
  obtain ⟨-, -, -, hnamed, -, -, -, hat⟩ := (Spec.applies_iff hf).mp happ
  obtain ⟨hg, hn⟩ := and_e (Cond.before_iff.mp (show (Jvm.Cond.and given_1 narrow_1).before args s = true from hpre))
  obtain ⟨gg1, gg2⟩ := and_e hg
  obtain ⟨gg3, gg4⟩ := and_e gg2
  obtain ⟨gg5, gg6⟩ := and_e gg4
  obtain ⟨gg7, gg8⟩ := and_e gg6
  obtain ⟨gg9, gg10⟩ := and_e gg8
  obtain ⟨gg11, gg12⟩ := and_e gg10
  obtain ⟨w0, w1, w2, w3, w4, w5, rfl⟩ : ∃ w0 w1 w2 w3 w4 w5 : Value, args = #[w0, w1, w2, w3, w4, w5] := by
    have hs : args.size = 6 := by simpa [Cond.value, given_1] using gg1
    obtain ⟨L⟩ := args
    match L, hs with
    | [w0, w1, w2, w3, w4, w5], _ => exact ⟨w0, w1, w2, w3, w4, w5, rfl⟩
  have hw := fun d (hd : d ∈ tables_1) => atoms_spec (ws := Jvm.Cond.code x code maxLocals ret :: tables_1) hat d (List.mem_cons_of_mem _ hd)
  have hfit : Fit s := fun {y c} hc i hi => by
    obtain ⟨ha, rfl⟩ := Array.getElem?_eq_some_iff.mp hc
    have q := List.all_eq_true.mp ((Array.all_eq_true_iff_forall_mem.mp hF) _ (Array.getElem_mem ha)) i (List.mem_range.mpr hi)
    simpa [Array.getElem?_eq_getElem hi] using q
  obtain ⟨i0, ei0⟩ := isL_v gg3
  obtain rfl : w0 = (.long i0) := Option.some.inj ei0
  obtain ⟨i1, ei1⟩ := isL_v gg5
  obtain rfl : w1 = (.long i1) := Option.some.inj ei1
  obtain ⟨i2, ei2⟩ := isL_v gg7
  obtain rfl : w2 = (.long i2) := Option.some.inj ei2
  obtain ⟨i3, ei3⟩ := is_v gg9
  obtain rfl : w3 = (.int i3) := Option.some.inj ei3
  obtain ⟨i4, ei4⟩ := isL_v gg11
  obtain rfl : w4 = (.long i4) := Option.some.inj ei4
  obtain ⟨i5, ei5⟩ := is_v gg12
  obtain rfl : w5 = (.int i5) := Option.some.inj ei5
  obtain ⟨gg13, gg14⟩ := and_e hn
  obtain ⟨gg15, gg16⟩ := and_e gg14
  obtain ⟨gg17, gg18⟩ := and_e gg16
  obtain ⟨gg19, gg20⟩ := and_e gg18
  obtain ⟨gg21, gg22⟩ := and_e gg20
  obtain ⟨np, ev_np⟩ := arr_v gg13
  have S_np := Sta.start ev_np (Or.inr ⟨(jk hw 7 rfl), (jk hw 15 rfl)⟩)
  obtain ⟨cl_np, A_np⟩ := Arr.start ev_np gg13
  obtain ⟨z1_np, z2_np⟩ := IntBox.length_fwd (Cond.before_iff.mpr gg17) ev_np A_np.1 A_np.2.1 A_np.2.2
  have V_np := Arv.start (vs := []) (dv := .null) hfit A_np z1_np z2_np (by decide) (by decide) trivial
  obtain ⟨nb, ev_nb⟩ := arr_v gg19
  have S_nb := Sta.start ev_nb (Or.inr ⟨(jk hw 7 rfl), (jk hw 61 rfl)⟩)
  obtain ⟨cl_nb, A_nb⟩ := Arr.start ev_nb gg19
  obtain ⟨z1_nb, z2_nb⟩ := IntBox.length_fwd (Cond.before_iff.mpr gg22) ev_nb A_nb.1 A_nb.2.1 A_nb.2.2
  have V_nb := Arv.start (vs := []) (dv := (.int (0 : Int32))) hfit A_nb z1_nb z2_nb (by decide) (by decide) trivial
  obtain ⟨n, o, h1, h2, h3, _, L, rfl, ⟨rfl, N⟩, hq⟩ := rm0 l s _ hw tables_1 i0 i1 i2 i3 i4 i5 np nb cl_np.cls cl_nb.cls s.heap s.heap.size (Nat.le_refl _) S_np S_nb (Old.start s) V_np V_nb p e ha hc hk s m _ below hf ((Spec.applies_iff_loose hf).mp happ).1 ⟨rfl, State.Warmed39.refl s, rfl⟩ trivial
  refine ⟨n, _, h1, h2, h3, hpost _ _ _ _ _ _ ⟨Cond.after_iff.mpr rfl, Cond.after_iff.mpr (eq_i res_at (Term.int_eval (1)) rfl), trivial⟩ ⟨hq.1, hq.2.1, (hq.2.2.sift fun y hy => Or.inr (N y hy)).mono (by decide) (by decide)⟩⟩
theorem main_1_1 : Claimed_1_1 := comes_1 fun _ _ _ _ _ _ h hF => ⟨h.1, hF⟩
theorem main_1_2 : Claimed_1_2 := comes_1 fun _ _ _ _ _ _ h hF => ⟨h.2.1, hF⟩
end Jvm.Pilot.@@N@@
namespace Jvm.Pilot.@@N@@
open Jvm Jvm.ClassFile Sem Op Lib Jvm.Free Jvm.Stand Jvm.Pilot.@@N@@.Jvm.D
/-! MADE BY PROGRAM (witnessworld.py) out of the Statement's table words and the real class files: 14 classes; the members and pool entries that the words name. The judged class is class 1, her method 1. -/
namespace start1
open Jvm.ClassFile
def u (s : String) : CpInfo := .utf8 (stringToUtf16 s)
/-- a pool by its gaps: so many unusable entries, then the entry; so many at the end -/
def gap : Nat → List CpInfo → List CpInfo
  | 0, r => r
  | n + 1, r => .unusable :: gap n r
def poolList (es : List (Nat × CpInfo)) (last : Nat) : List CpInfo := es.foldr (fun e r => gap e.1 (e.2 :: r)) (gap last [])
def pool (es : List (Nat × CpInfo)) (last : Nat) : Array CpInfo := ⟨poolList es last⟩
def fileOf (pool : Array CpInfo) (this : Nat) (attrs : Array Attribute := #[]) (ms : Array MethodInfo := #[]) (fl : Nat := 33) (sup : Nat := 0) (ifs : Array Nat := #[]) (fds : Array FieldInfo := #[]) : ClassFile where
  minorVersion := 0
  majorVersion := 65
  constantPool := pool
  accessFlags := fl
  thisClass := this
  superClass := sup
  interfaces := ifs
  fields := fds
  methods := ms
  attributes := attrs
def plain (name : String) (sup : Option ClassId) : Class where
  name := name
  kind := .ordinary
  loader := none
  accessFlags := 33
  super := sup
  interfaces := #[]
  cf := none
  fields := #[]
  methods := #[]
  instanceTypes := #[]
  staticTypes := #[]
  resolved := #[]
  callSites := []
  init := .initialized
  statics := none
  mirror := none

def pool0 : Array CpInfo := pool [(5, u "<init>"), (0, u "()V"), (1, .class_ 10), (1, u "java/lang/Object")] 113

def k0c0 : Code := { maxStack := 0, maxLocals := 1, code := object_method_1_code, exceptionTable := #[], attributes := #[] }
def k0m0 : Method := { name := "<init>", desc := "()V", sig := { parameters := [], returnType := none }, accessFlags := 1, code := some k0c0 }
/-- java/lang/Object -/
def k0 : Class := { plain "java/lang/Object" none with
  accessFlags := 33
  interfaces := #[]
  cf := some (fileOf pool0 8 #[] #[{ accessFlags := 1, nameIndex := 5, descriptorIndex := 6, attributes := #[] }] 33 0 #[] #[])
  fields := #[]
  methods := #[k0m0]
  instanceTypes := #[]
  staticTypes := #[]
  resolved := Array.replicate 124 none
  statics := none }

def pool1 : Array CpInfo := pool [(2, .class_ 4), (1, u "java/lang/Object"), (0, u "<init>"), (0, u "()V"), (0, .long 4611686018427387903), (1, .long 2), (1, .long 65535), (1, .long 4095), (1, .long 16777215), (1, .class_ 18), (0, u "com/example/portion/portion/server/OffsetSet"), (0, .methodref 17 20), (0, .nameAndType 5 21), (0, u "(I)V"), (0, .methodref 17 23), (0, .nameAndType 24 25), (0, u "add"), (0, u "(J)V"), (0, .methodref 17 27), (0, .nameAndType 28 29), (0, u "addRange"), (0, u "(JJ)V"), (0, .methodref 17 31), (0, .nameAndType 32 6), (0, u "clear"), (0, .methodref 17 34), (0, .nameAndType 35 36), (0, u "isEmpty"), (0, u "()Z"), (0, .methodref 17 38), (0, .nameAndType 39 40), (0, u "contains"), (0, u "(J)Z"), (0, .methodref 17 42), (0, .nameAndType 43 44), (0, u "size"), (0, u "()J"), (0, .methodref 17 46), (0, .nameAndType 47 44), (0, u "first"), (0, .class_ 49), (0, u "com/example/portion/portion/server/OffsetSetClearPinLaw"), (2, u "law"), (0, u "(JJJIJI)Z")] 3

def k1m0 : Method := { name := "<init>", desc := "()V", sig := { parameters := [], returnType := none }, accessFlags := 1, code := none }
def k1c1 : Code := { maxStack := 7, maxLocals := 30, code := code, exceptionTable := #[], attributes := #[] }
def k1m1 : Method := { name := "law", desc := "(JJJIJI)Z", sig := { parameters := [.long, .long, .long, .int, .long, .int], returnType := some .boolean }, accessFlags := 9, code := some k1c1 }
/-- com/example/portion/portion/server/OffsetSetClearPinLaw -/
def k1 : Class := { plain "com/example/portion/portion/server/OffsetSetClearPinLaw" (some 0) with
  accessFlags := 49
  interfaces := #[]
  cf := some (fileOf pool1 48 #[] #[{ accessFlags := 1, nameIndex := 5, descriptorIndex := 6, attributes := #[] }, { accessFlags := 9, nameIndex := 52, descriptorIndex := 53, attributes := #[] }] 49 2 #[] #[])
  fields := #[]
  methods := #[k1m0, k1m1]
  instanceTypes := #[]
  staticTypes := #[]
  resolved := Array.replicate 57 none
  statics := none }

def pool2 : Array CpInfo := pool [(1, .class_ 2), (0, u "com/example/portion/portion/server/OffsetSet"), (2, u "<init>"), (0, u "(I)V"), (0, .methodref 8 9), (0, .class_ 10), (0, .nameAndType 5 11), (0, u "java/lang/Object"), (0, u "()V"), (0, .fieldref 1 13), (0, .nameAndType 14 15), (0, u "NO_PAGES"), (0, u "[Lcom/example/portion/portion/server/OffsetSet$Page;"), (0, .fieldref 1 17), (0, .nameAndType 18 15), (0, u "pages"), (0, .fieldref 1 20), (0, .nameAndType 21 22), (0, u "pageBytes"), (0, u "I"), (0, .fieldref 1 24), (0, .nameAndType 25 26), (0, u "size"), (0, u "J"), (7, .fieldref 35 36), (0, .class_ 37), (0, .nameAndType 38 26), (0, u "com/example/portion/portion/server/OffsetSet$Page"), (0, u "firstFrom"), (2, u "first"), (0, u "()J"), (3, .fieldref 35 24), (0, .methodref 1 48), (0, .nameAndType 49 50), (0, u "replacePages"), (0, u "(II[Lcom/example/portion/portion/server/OffsetSet$Page;I)V"), (0, .methodref 1 52), (0, .nameAndType 53 54), (0, u "pageAt"), (0, u "(J)I"), (0, .methodref 35 56), (0, .nameAndType 57 58), (0, u "contains"), (0, u "(J)Z"), (0, .methodref 1 60), (0, .nameAndType 61 62), (0, u "addRange"), (0, u "(JJ)V"), (0, .methodref 1 64), (0, .nameAndType 65 62), (0, u "requireRange"), (0, .methodref 67 68), (0, .class_ 69), (0, .nameAndType 70 71), (0, u "java/lang/Math"), (0, u "max"), (0, u "(II)I"), (0, .methodref 1 73), (0, .nameAndType 74 62), (0, u "append"), (0, .methodref 35 76), (0, .nameAndType 77 42), (0, u "lastRunFrom"), (0, .methodref 1 79), (0, .nameAndType 80 81), (0, u "appendTo"), (0, u "(IJJ)V"), (21, .methodref 35 104), (0, .nameAndType 105 42), (0, u "lastRunTo"), (3, .fieldref 1 110), (0, .nameAndType 111 22), (0, u "pageCount"), (3, u "(J)V"), (3, .class_ 120), (0, u "com/example/portion/portion/server/OffsetSet$Runs"), (6, u "()Z"), (7, .class_ 137), (1, u "com/example/portion/portion/server/OffsetSet$RunConsumer"), (7, .methodref 35 146), (0, .nameAndType 147 148), (0, u "byteCount"), (0, u "()I"), (0, .methodref 35 150), (0, .nameAndType 151 11), (0, u "trim"), (0, .methodref 35 9), (0, .methodref 35 154), (0, .nameAndType 155 62), (0, u "extend"), (11, .methodref 168 169), (0, .class_ 170), (0, .nameAndType 171 172), (0, u "java/lang/System"), (0, u "arraycopy"), (0, u "(Ljava/lang/Object;ILjava/lang/Object;II)V"), (12, u "NO_BYTES"), (0, u "[B"), (0, u "MIN_BYTES"), (2, u "MAX_RUN_BYTES"), (1, u "MAX_SHORT_GAP"), (0, u "MAX_SHORT_LENGTH"), (1, u "PAGE_BYTES"), (3, u "isEmpty"), (1, u "add"), (3, u "clear"), (9, .class_ 216), (0, u "com/example/portion/portion/server/OffsetSet$Page$Runs")] 30

def k2m0 : Method := { name := "<init>", desc := "()V", sig := { parameters := [], returnType := none }, accessFlags := 0, code := none }
def k2c1 : Code := { maxStack := 2, maxLocals := 2, code := prog_38_method_2_code, exceptionTable := #[], attributes := #[] }
def k2m1 : Method := { name := "<init>", desc := "(I)V", sig := { parameters := [.int], returnType := none }, accessFlags := 0, code := some k2c1 }
def k2c2 : Code := { maxStack := 4, maxLocals := 1, code := prog_38_method_3_code, exceptionTable := #[], attributes := #[] }
def k2m2 : Method := { name := "isEmpty", desc := "()Z", sig := { parameters := [], returnType := some .boolean }, accessFlags := 0, code := some k2c2 }
def k2c3 : Code := { maxStack := 2, maxLocals := 1, code := prog_38_method_4_code, exceptionTable := #[], attributes := #[] }
def k2m3 : Method := { name := "size", desc := "()J", sig := { parameters := [], returnType := some .long }, accessFlags := 0, code := some k2c3 }
def k2c4 : Code := { maxStack := 4, maxLocals := 1, code := prog_38_method_5_code, exceptionTable := #[], attributes := #[] }
def k2m4 : Method := { name := "first", desc := "()J", sig := { parameters := [], returnType := some .long }, accessFlags := 0, code := some k2c4 }
def k2c5 : Code := { maxStack := 3, maxLocals := 4, code := prog_38_method_7_code, exceptionTable := #[], attributes := #[] }
def k2m5 : Method := { name := "contains", desc := "(J)Z", sig := { parameters := [.long], returnType := some .boolean }, accessFlags := 0, code := some k2c5 }
def k2c6 : Code := { maxStack := 7, maxLocals := 3, code := prog_38_method_8_code, exceptionTable := #[], attributes := #[] }
def k2m6 : Method := { name := "add", desc := "(J)V", sig := { parameters := [.long], returnType := none }, accessFlags := 0, code := some k2c6 }
def k2c7 : Code := { maxStack := 7, maxLocals := 8, code := prog_38_method_9_code, exceptionTable := #[], attributes := #[] }
def k2m7 : Method := { name := "addRange", desc := "(JJ)V", sig := { parameters := [.long, .long], returnType := none }, accessFlags := 0, code := some k2c7 }
def k2c8 : Code := { maxStack := 3, maxLocals := 1, code := prog_38_method_13_code, exceptionTable := #[], attributes := #[] }
def k2m8 : Method := { name := "clear", desc := "()V", sig := { parameters := [], returnType := none }, accessFlags := 0, code := some k2c8 }
def k2c9 : Code := { maxStack := 6, maxLocals := 4, code := prog_38_method_16_code, exceptionTable := #[], attributes := #[] }
def k2m9 : Method := { name := "requireRange", desc := "(JJ)V", sig := { parameters := [.long, .long], returnType := none }, accessFlags := 8, code := some k2c9 }
def k2c10 : Code := { maxStack := 4, maxLocals := 6, code := prog_38_method_18_code, exceptionTable := #[], attributes := #[] }
def k2m10 : Method := { name := "pageAt", desc := "(J)I", sig := { parameters := [.long], returnType := some .int }, accessFlags := 2, code := some k2c10 }
def k2c11 : Code := { maxStack := 6, maxLocals := 5, code := prog_38_method_19_code, exceptionTable := #[], attributes := #[] }
def k2m11 : Method := { name := "append", desc := "(JJ)V", sig := { parameters := [.long, .long], returnType := none }, accessFlags := 2, code := some k2c11 }
def k2c12 : Code := { maxStack := 7, maxLocals := 9, code := prog_38_method_20_code, exceptionTable := #[], attributes := #[] }
def k2m12 : Method := { name := "appendTo", desc := "(IJJ)V", sig := { parameters := [.int, .long, .long], returnType := none }, accessFlags := 2, code := some k2c12 }
def k2c13 : Code := { maxStack := 6, maxLocals := 7, code := prog_38_method_24_code, exceptionTable := #[], attributes := #[] }
def k2m13 : Method := { name := "replacePages", desc := "(II[Lcom/example/portion/portion/server/OffsetSet$Page;I)V", sig := { parameters := [.int, .int, (.array (.object "com/example/portion/portion/server/OffsetSet$Page")), .int], returnType := none }, accessFlags := 2, code := some k2c13 }
/-- com/example/portion/portion/server/OffsetSet -/
def k2 : Class := { plain "com/example/portion/portion/server/OffsetSet" (some 0) with
  accessFlags := 48
  interfaces := #[]
  cf := some (fileOf pool2 1 #[.nestMembers #[35, 215, 119, 135]] #[{ accessFlags := 0, nameIndex := 5, descriptorIndex := 11, attributes := #[] }, { accessFlags := 0, nameIndex := 5, descriptorIndex := 6, attributes := #[] }, { accessFlags := 0, nameIndex := 199, descriptorIndex := 127, attributes := #[] }, { accessFlags := 0, nameIndex := 25, descriptorIndex := 42, attributes := #[] }, { accessFlags := 0, nameIndex := 41, descriptorIndex := 42, attributes := #[] }, { accessFlags := 0, nameIndex := 57, descriptorIndex := 58, attributes := #[] }, { accessFlags := 0, nameIndex := 201, descriptorIndex := 115, attributes := #[] }, { accessFlags := 0, nameIndex := 61, descriptorIndex := 62, attributes := #[] }, { accessFlags := 0, nameIndex := 205, descriptorIndex := 11, attributes := #[] }, { accessFlags := 8, nameIndex := 65, descriptorIndex := 62, attributes := #[] }, { accessFlags := 2, nameIndex := 53, descriptorIndex := 54, attributes := #[] }, { accessFlags := 2, nameIndex := 74, descriptorIndex := 62, attributes := #[] }, { accessFlags := 2, nameIndex := 80, descriptorIndex := 81, attributes := #[] }, { accessFlags := 2, nameIndex := 49, descriptorIndex := 50, attributes := #[] }] 48 8 #[] #[{ accessFlags := 26, nameIndex := 185, descriptorIndex := 186, attributes := #[] }, { accessFlags := 26, nameIndex := 14, descriptorIndex := 15, attributes := #[] }, { accessFlags := 26, nameIndex := 187, descriptorIndex := 22, attributes := #[] }, { accessFlags := 26, nameIndex := 190, descriptorIndex := 22, attributes := #[] }, { accessFlags := 26, nameIndex := 192, descriptorIndex := 22, attributes := #[] }, { accessFlags := 26, nameIndex := 193, descriptorIndex := 22, attributes := #[] }, { accessFlags := 26, nameIndex := 195, descriptorIndex := 22, attributes := #[] }, { accessFlags := 18, nameIndex := 21, descriptorIndex := 22, attributes := #[] }, { accessFlags := 2, nameIndex := 25, descriptorIndex := 26, attributes := #[] }, { accessFlags := 2, nameIndex := 18, descriptorIndex := 15, attributes := #[] }, { accessFlags := 2, nameIndex := 111, descriptorIndex := 22, attributes := #[] }])
  fields := #[{ name := "NO_BYTES", type := (.array .byte), accessFlags := 26, slot := 0, constantValue := 0 }, { name := "NO_PAGES", type := (.array (.object "com/example/portion/portion/server/OffsetSet$Page")), accessFlags := 26, slot := 1, constantValue := 0 }, { name := "MIN_BYTES", type := .int, accessFlags := 26, slot := 2, constantValue := 0 }, { name := "MAX_RUN_BYTES", type := .int, accessFlags := 26, slot := 3, constantValue := 0 }, { name := "MAX_SHORT_GAP", type := .int, accessFlags := 26, slot := 4, constantValue := 0 }, { name := "MAX_SHORT_LENGTH", type := .int, accessFlags := 26, slot := 5, constantValue := 0 }, { name := "PAGE_BYTES", type := .int, accessFlags := 26, slot := 6, constantValue := 0 }, { name := "pageBytes", type := .int, accessFlags := 18, slot := 0, constantValue := 0 }, { name := "size", type := .long, accessFlags := 2, slot := 1, constantValue := 0 }, { name := "pages", type := (.array (.object "com/example/portion/portion/server/OffsetSet$Page")), accessFlags := 2, slot := 2, constantValue := 0 }, { name := "pageCount", type := .int, accessFlags := 2, slot := 3, constantValue := 0 }]
  methods := #[k2m0, k2m1, k2m2, k2m3, k2m4, k2m5, k2m6, k2m7, k2m8, k2m9, k2m10, k2m11, k2m12, k2m13]
  instanceTypes := #[.int, .long, (.array (.object "com/example/portion/portion/server/OffsetSet$Page")), .int]
  staticTypes := #[(.array .byte), (.array (.object "com/example/portion/portion/server/OffsetSet$Page")), .int, .int, .int, .int, .int]
  resolved := ((((Array.replicate 247 (none : Option Resolved)).set! 34 (some (.field 4 1))).set! 46 (some (.field 4 0))).set! 35 (some (.cls 4))).set! 152 (some (.method ⟨4, 0⟩))
  statics := some 0 }

def pool3 : Array CpInfo := pool [(1, .class_ 2), (0, u "java/lang/Math"), (1, .class_ 6), (1, u "java/lang/Object"), (0, u "<init>"), (0, u "()V"), (89, .class_ 100), (1, u "java/lang/Math$RandomNumberGeneratorHolder"), (71, u "negativeZeroFloatBits"), (0, u "J"), (2, u "negativeZeroDoubleBits"), (21, u "max"), (46, u "$assertionsDisabled"), (0, u "Z"), (88, u "(II)I"), (2, u "twoToTheDoubleScaleDown"), (0, u "D"), (4, u "twoToTheDoubleScaleUp"), (9, u "E"), (3, u "PI"), (2, u "TAU"), (2, u "DEGREES_TO_RADIANS"), (0, u "RADIANS_TO_DEGREES")] 94

def k3m0 : Method := { name := "<init>", desc := "()V", sig := { parameters := [], returnType := none }, accessFlags := 2, code := none }
def k3c1 : Code := { maxStack := 2, maxLocals := 2, code := jdk_29_method_65_code, exceptionTable := #[], attributes := #[] }
def k3m1 : Method := { name := "max", desc := "(II)I", sig := { parameters := [.int, .int], returnType := some .int }, accessFlags := 9, code := some k3c1 }
/-- java/lang/Math -/
def k3 : Class := { plain "java/lang/Math" (some 0) with
  accessFlags := 49
  interfaces := #[]
  cf := some (fileOf pool3 1 #[.nestMembers #[98]] #[{ accessFlags := 2, nameIndex := 7, descriptorIndex := 8, attributes := #[] }, { accessFlags := 9, nameIndex := 198, descriptorIndex := 335, attributes := #[] }] 49 4 #[] #[{ accessFlags := 25, nameIndex := 354, descriptorIndex := 339, attributes := #[] }, { accessFlags := 25, nameIndex := 358, descriptorIndex := 339, attributes := #[] }, { accessFlags := 25, nameIndex := 361, descriptorIndex := 339, attributes := #[] }, { accessFlags := 26, nameIndex := 364, descriptorIndex := 339, attributes := #[] }, { accessFlags := 26, nameIndex := 365, descriptorIndex := 339, attributes := #[] }, { accessFlags := 26, nameIndex := 172, descriptorIndex := 173, attributes := #[] }, { accessFlags := 26, nameIndex := 176, descriptorIndex := 173, attributes := #[] }, { accessFlags := 8, nameIndex := 344, descriptorIndex := 339, attributes := #[] }, { accessFlags := 8, nameIndex := 338, descriptorIndex := 339, attributes := #[] }, { accessFlags := 4120, nameIndex := 245, descriptorIndex := 246, attributes := #[] }])
  fields := #[{ name := "E", type := .double, accessFlags := 25, slot := 0, constantValue := 0 }, { name := "PI", type := .double, accessFlags := 25, slot := 1, constantValue := 0 }, { name := "TAU", type := .double, accessFlags := 25, slot := 2, constantValue := 0 }, { name := "DEGREES_TO_RADIANS", type := .double, accessFlags := 26, slot := 3, constantValue := 0 }, { name := "RADIANS_TO_DEGREES", type := .double, accessFlags := 26, slot := 4, constantValue := 0 }, { name := "negativeZeroFloatBits", type := .long, accessFlags := 26, slot := 5, constantValue := 0 }, { name := "negativeZeroDoubleBits", type := .long, accessFlags := 26, slot := 6, constantValue := 0 }, { name := "twoToTheDoubleScaleUp", type := .double, accessFlags := 8, slot := 7, constantValue := 0 }, { name := "twoToTheDoubleScaleDown", type := .double, accessFlags := 8, slot := 8, constantValue := 0 }, { name := "$assertionsDisabled", type := .boolean, accessFlags := 4120, slot := 9, constantValue := 0 }]
  methods := #[k3m0, k3m1]
  instanceTypes := #[]
  staticTypes := #[.double, .double, .double, .double, .double, .long, .long, .double, .double, .boolean]
  resolved := Array.replicate 460 none
  statics := none }

def pool4 : Array CpInfo := pool [(1, .class_ 2), (0, u "com/example/portion/portion/server/OffsetSet"), (0, .methodref 4 5), (0, .class_ 6), (0, .nameAndType 7 8), (0, u "java/lang/Object"), (0, u "<init>"), (0, u "()V"), (0, .fieldref 1 10), (0, .nameAndType 11 12), (0, u "NO_BYTES"), (0, u "[B"), (0, .fieldref 14 15), (0, .class_ 16), (0, .nameAndType 17 12), (0, u "com/example/portion/portion/server/OffsetSet$Page"), (0, u "bytes"), (0, .fieldref 14 19), (0, .nameAndType 20 21), (0, u "lastAt"), (0, u "I"), (0, .fieldref 14 23), (0, .nameAndType 24 25), (0, u "firstFrom"), (0, u "J"), (0, .fieldref 14 27), (0, .nameAndType 28 25), (0, u "lastFrom"), (0, .fieldref 14 30), (0, .nameAndType 31 25), (0, u "firstTo"), (0, .fieldref 14 33), (0, .nameAndType 34 25), (0, u "lastTo"), (0, .fieldref 14 36), (0, .nameAndType 37 21), (0, u "end"), (0, .fieldref 14 39), (0, .nameAndType 40 21), (0, u "start"), (0, .methodref 14 42), (0, .nameAndType 43 44), (0, u "lastRunTo"), (0, u "()J"), (0, .fieldref 14 46), (0, .nameAndType 47 25), (0, u "size"), (0, .methodref 14 49), (0, .nameAndType 50 51), (0, u "makeRoom"), (0, u "(I)V"), (0, .fieldref 14 53), (0, .nameAndType 54 25), (0, u "lastGap"), (0, .methodref 14 56), (0, .nameAndType 57 8), (0, u "writeLastRun"), (3, .class_ 62), (0, u "com/example/portion/portion/server/OffsetSet$Page$Runs"), (0, .methodref 61 64), (0, .nameAndType 7 65), (0, u "(Lcom/example/portion/portion/server/OffsetSet$Page;)V"), (0, .fieldref 61 67), (0, .nameAndType 68 25), (0, u "to"), (0, .fieldref 61 70), (0, .nameAndType 71 25), (0, u "from"), (7, .methodref 80 81), (0, .class_ 82), (0, .nameAndType 83 84), (0, u "java/lang/System"), (0, u "arraycopy"), (0, u "(Ljava/lang/Object;ILjava/lang/Object;II)V"), (1, .class_ 88), (1, u "java/lang/Math"), (4, u "max"), (2, u "extend"), (0, u "(JJ)V"), (5, u "trim"), (13, u "(J)V"), (8, .methodref 14 127), (0, .nameAndType 128 51), (0, u "moveTo"), (0, .methodref 14 130), (0, .nameAndType 131 132), (0, u "withRoom"), (0, u "(I)I"), (0, .methodref 86 134), (0, .nameAndType 93 135), (0, u "(II)I"), (0, .long 16), (1, .long 8), (1, .long 63), (1, .methodref 14 143), (0, .nameAndType 144 117), (0, u "write"), (0, .long 18446744073709551488), (1, .long 127), (1, .long 128), (3, u "lastRunFrom"), (1, u "byteCount"), (0, u "()I"), (4, u "contains"), (0, u "(J)Z")] 8

def k4c0 : Code := { maxStack := 2, maxLocals := 1, code := prog_39_method_1_code, exceptionTable := #[], attributes := #[] }
def k4m0 : Method := { name := "<init>", desc := "()V", sig := { parameters := [], returnType := none }, accessFlags := 2, code := some k4c0 }
def k4c1 : Code := { maxStack := 2, maxLocals := 1, code := prog_39_method_2_code, exceptionTable := #[], attributes := #[] }
def k4m1 : Method := { name := "lastRunFrom", desc := "()J", sig := { parameters := [], returnType := some .long }, accessFlags := 0, code := some k4c1 }
def k4c2 : Code := { maxStack := 2, maxLocals := 1, code := prog_39_method_3_code, exceptionTable := #[], attributes := #[] }
def k4m2 : Method := { name := "lastRunTo", desc := "()J", sig := { parameters := [], returnType := some .long }, accessFlags := 0, code := some k4c2 }
def k4c3 : Code := { maxStack := 2, maxLocals := 1, code := prog_39_method_4_code, exceptionTable := #[], attributes := #[] }
def k4m3 : Method := { name := "byteCount", desc := "()I", sig := { parameters := [], returnType := some .int }, accessFlags := 0, code := some k4c3 }
def k4c4 : Code := { maxStack := 7, maxLocals := 7, code := prog_39_method_5_code, exceptionTable := #[], attributes := #[] }
def k4m4 : Method := { name := "extend", desc := "(JJ)V", sig := { parameters := [.long, .long], returnType := none }, accessFlags := 0, code := some k4c4 }
def k4c5 : Code := { maxStack := 4, maxLocals := 6, code := prog_39_method_11_code, exceptionTable := #[], attributes := #[] }
def k4m5 : Method := { name := "contains", desc := "(J)Z", sig := { parameters := [.long], returnType := some .boolean }, accessFlags := 0, code := some k4c5 }
def k4c6 : Code := { maxStack := 3, maxLocals := 1, code := prog_39_method_13_code, exceptionTable := #[], attributes := #[] }
def k4m6 : Method := { name := "trim", desc := "()V", sig := { parameters := [], returnType := none }, accessFlags := 0, code := some k4c6 }
def k4c7 : Code := { maxStack := 3, maxLocals := 2, code := prog_39_method_16_code, exceptionTable := #[], attributes := #[] }
def k4m7 : Method := { name := "makeRoom", desc := "(I)V", sig := { parameters := [.int], returnType := none }, accessFlags := 2, code := some k4c7 }
def k4c8 : Code := { maxStack := 4, maxLocals := 1, code := prog_39_method_17_code, exceptionTable := #[], attributes := #[] }
def k4m8 : Method := { name := "withRoom", desc := "(I)I", sig := { parameters := [.int], returnType := some .int }, accessFlags := 10, code := some k4c8 }
def k4c9 : Code := { maxStack := 6, maxLocals := 3, code := prog_39_method_18_code, exceptionTable := #[], attributes := #[] }
def k4m9 : Method := { name := "moveTo", desc := "(I)V", sig := { parameters := [.int], returnType := none }, accessFlags := 2, code := some k4c9 }
def k4c10 : Code := { maxStack := 8, maxLocals := 8, code := prog_39_method_19_code, exceptionTable := #[], attributes := #[] }
def k4m10 : Method := { name := "writeLastRun", desc := "()V", sig := { parameters := [], returnType := none }, accessFlags := 2, code := some k4c10 }
def k4c11 : Code := { maxStack := 6, maxLocals := 5, code := prog_39_method_20_code, exceptionTable := #[], attributes := #[] }
def k4m11 : Method := { name := "write", desc := "(J)V", sig := { parameters := [.long], returnType := none }, accessFlags := 2, code := some k4c11 }
/-- com/example/portion/portion/server/OffsetSet$Page -/
def k4 : Class := { plain "com/example/portion/portion/server/OffsetSet$Page" (some 0) with
  accessFlags := 48
  interfaces := #[]
  cf := some (fileOf pool4 14 #[.nestHost 1] #[{ accessFlags := 2, nameIndex := 7, descriptorIndex := 8, attributes := #[] }, { accessFlags := 0, nameIndex := 153, descriptorIndex := 44, attributes := #[] }, { accessFlags := 0, nameIndex := 43, descriptorIndex := 44, attributes := #[] }, { accessFlags := 0, nameIndex := 155, descriptorIndex := 156, attributes := #[] }, { accessFlags := 0, nameIndex := 96, descriptorIndex := 97, attributes := #[] }, { accessFlags := 0, nameIndex := 161, descriptorIndex := 162, attributes := #[] }, { accessFlags := 0, nameIndex := 103, descriptorIndex := 8, attributes := #[] }, { accessFlags := 2, nameIndex := 50, descriptorIndex := 51, attributes := #[] }, { accessFlags := 10, nameIndex := 131, descriptorIndex := 132, attributes := #[] }, { accessFlags := 2, nameIndex := 128, descriptorIndex := 51, attributes := #[] }, { accessFlags := 2, nameIndex := 57, descriptorIndex := 8, attributes := #[] }, { accessFlags := 2, nameIndex := 144, descriptorIndex := 117, attributes := #[] }] 48 4 #[] #[{ accessFlags := 2, nameIndex := 47, descriptorIndex := 25, attributes := #[] }, { accessFlags := 2, nameIndex := 24, descriptorIndex := 25, attributes := #[] }, { accessFlags := 2, nameIndex := 31, descriptorIndex := 25, attributes := #[] }, { accessFlags := 2, nameIndex := 17, descriptorIndex := 12, attributes := #[] }, { accessFlags := 2, nameIndex := 40, descriptorIndex := 21, attributes := #[] }, { accessFlags := 2, nameIndex := 37, descriptorIndex := 21, attributes := #[] }, { accessFlags := 2, nameIndex := 20, descriptorIndex := 21, attributes := #[] }, { accessFlags := 2, nameIndex := 54, descriptorIndex := 25, attributes := #[] }, { accessFlags := 2, nameIndex := 28, descriptorIndex := 25, attributes := #[] }, { accessFlags := 2, nameIndex := 34, descriptorIndex := 25, attributes := #[] }])
  fields := #[{ name := "size", type := .long, accessFlags := 2, slot := 0, constantValue := 0 }, { name := "firstFrom", type := .long, accessFlags := 2, slot := 1, constantValue := 0 }, { name := "firstTo", type := .long, accessFlags := 2, slot := 2, constantValue := 0 }, { name := "bytes", type := (.array .byte), accessFlags := 2, slot := 3, constantValue := 0 }, { name := "start", type := .int, accessFlags := 2, slot := 4, constantValue := 0 }, { name := "end", type := .int, accessFlags := 2, slot := 5, constantValue := 0 }, { name := "lastAt", type := .int, accessFlags := 2, slot := 6, constantValue := 0 }, { name := "lastGap", type := .long, accessFlags := 2, slot := 7, constantValue := 0 }, { name := "lastFrom", type := .long, accessFlags := 2, slot := 8, constantValue := 0 }, { name := "lastTo", type := .long, accessFlags := 2, slot := 9, constantValue := 0 }]
  methods := #[k4m0, k4m1, k4m2, k4m3, k4m4, k4m5, k4m6, k4m7, k4m8, k4m9, k4m10, k4m11]
  instanceTypes := #[.long, .long, .long, (.array .byte), .int, .int, .int, .long, .long, .long]
  staticTypes := #[]
  resolved := Array.replicate 171 none
  statics := none }

def pool5 : Array CpInfo := pool [(2, .class_ 4), (1, u "java/lang/Object"), (0, u "<init>"), (0, u "()V"), (1, .class_ 10), (1, u "java/lang/System"), (0, u "allowSecurityManager"), (0, u "I"), (16, u "cons"), (0, u "Ljava/io/Console;"), (77, .class_ 110), (1, u "java/lang/System$CallersHolder"), (43, u "initialErrStream"), (0, u "Ljava/io/PrintStream;"), (19, u "security"), (0, u "Ljava/lang/SecurityManager;"), (31, .class_ 209), (0, u "java/lang/System$1"), (7, u "props"), (0, u "Ljava/util/Properties;"), (2, u "lineSeparator"), (0, u "Ljava/lang/String;"), (96, .class_ 321), (1, u "java/lang/System$LoggerFinder"), (5, .class_ 328), (0, u "java/lang/System$Logger"), (67, u "err"), (2, u "out"), (91, u "notSupportedJnuEncoding"), (15, u "in"), (17, u "initialIn"), (0, u "Ljava/io/InputStream;"), (35, u "bootLayer"), (0, u "Ljava/lang/ModuleLayer;"), (99, .class_ 664), (0, u "java/lang/System$2"), (9, u "NEVER"), (2, u "MAYBE"), (49, u "arraycopy"), (0, u "(Ljava/lang/Object;ILjava/lang/Object;II)V"), (72, .class_ 802), (0, u "java/lang/System$Logger$Level")] 31

def k5m0 : Method := { name := "<init>", desc := "()V", sig := { parameters := [], returnType := none }, accessFlags := 2, code := none }
def k5m1 : Method := { name := "arraycopy", desc := "(Ljava/lang/Object;ILjava/lang/Object;II)V", sig := { parameters := [(.object "java/lang/Object"), .int, (.object "java/lang/Object"), .int, .int], returnType := none }, accessFlags := 265, code := none }
/-- java/lang/System -/
def k5 : Class := { plain "java/lang/System" (some 0) with
  accessFlags := 49
  interfaces := #[]
  cf := some (fileOf pool5 8 #[.nestMembers #[319, 327, 801, 108, 663, 208]] #[{ accessFlags := 2, nameIndex := 5, descriptorIndex := 6, attributes := #[] }, { accessFlags := 265, nameIndex := 727, descriptorIndex := 728, attributes := #[] }] 49 2 #[] #[{ accessFlags := 25, nameIndex := 507, descriptorIndex := 526, attributes := #[] }, { accessFlags := 25, nameIndex := 399, descriptorIndex := 155, attributes := #[] }, { accessFlags := 25, nameIndex := 396, descriptorIndex := 155, attributes := #[] }, { accessFlags := 10, nameIndex := 525, descriptorIndex := 526, attributes := #[] }, { accessFlags := 26, nameIndex := 674, descriptorIndex := 12, attributes := #[] }, { accessFlags := 26, nameIndex := 677, descriptorIndex := 12, attributes := #[] }, { accessFlags := 10, nameIndex := 11, descriptorIndex := 12, attributes := #[] }, { accessFlags := 74, nameIndex := 175, descriptorIndex := 176, attributes := #[] }, { accessFlags := 10, nameIndex := 491, descriptorIndex := 222, attributes := #[] }, { accessFlags := 74, nameIndex := 29, descriptorIndex := 30, attributes := #[] }, { accessFlags := 74, nameIndex := 154, descriptorIndex := 155, attributes := #[] }, { accessFlags := 10, nameIndex := 217, descriptorIndex := 218, attributes := #[] }, { accessFlags := 10, nameIndex := 221, descriptorIndex := 222, attributes := #[] }, { accessFlags := 8, nameIndex := 562, descriptorIndex := 563, attributes := #[] }])
  fields := #[{ name := "in", type := (.object "java/io/InputStream"), accessFlags := 25, slot := 0, constantValue := 0 }, { name := "out", type := (.object "java/io/PrintStream"), accessFlags := 25, slot := 1, constantValue := 0 }, { name := "err", type := (.object "java/io/PrintStream"), accessFlags := 25, slot := 2, constantValue := 0 }, { name := "initialIn", type := (.object "java/io/InputStream"), accessFlags := 10, slot := 3, constantValue := 0 }, { name := "NEVER", type := .int, accessFlags := 26, slot := 4, constantValue := 0 }, { name := "MAYBE", type := .int, accessFlags := 26, slot := 5, constantValue := 0 }, { name := "allowSecurityManager", type := .int, accessFlags := 10, slot := 6, constantValue := 0 }, { name := "security", type := (.object "java/lang/SecurityManager"), accessFlags := 74, slot := 7, constantValue := 0 }, { name := "notSupportedJnuEncoding", type := (.object "java/lang/String"), accessFlags := 10, slot := 8, constantValue := 0 }, { name := "cons", type := (.object "java/io/Console"), accessFlags := 74, slot := 9, constantValue := 0 }, { name := "initialErrStream", type := (.object "java/io/PrintStream"), accessFlags := 74, slot := 10, constantValue := 0 }, { name := "props", type := (.object "java/util/Properties"), accessFlags := 10, slot := 11, constantValue := 0 }, { name := "lineSeparator", type := (.object "java/lang/String"), accessFlags := 10, slot := 12, constantValue := 0 }, { name := "bootLayer", type := (.object "java/lang/ModuleLayer"), accessFlags := 8, slot := 13, constantValue := 0 }]
  methods := #[k5m0, k5m1]
  instanceTypes := #[]
  staticTypes := #[(.object "java/io/InputStream"), (.object "java/io/PrintStream"), (.object "java/io/PrintStream"), (.object "java/io/InputStream"), .int, .int, .int, (.object "java/lang/SecurityManager"), (.object "java/lang/String"), (.object "java/io/Console"), (.object "java/io/PrintStream"), (.object "java/util/Properties"), (.object "java/lang/String"), (.object "java/lang/ModuleLayer")]
  resolved := Array.replicate 834 none
  statics := none }

def pool6 : Array CpInfo := pool [(1, .fieldref 2 3), (0, .class_ 4), (0, .nameAndType 5 6), (0, u "com/example/portion/portion/server/OffsetSet$Page$Runs"), (0, u "this$0"), (0, u "Lcom/example/portion/portion/server/OffsetSet$Page;"), (0, .methodref 8 9), (0, .class_ 10), (0, .nameAndType 11 12), (0, u "java/lang/Object"), (0, u "<init>"), (0, u "()V"), (0, .fieldref 14 15), (0, .class_ 16), (0, .nameAndType 17 18), (0, u "com/example/portion/portion/server/OffsetSet$Page"), (0, u "firstFrom"), (0, u "J"), (0, .fieldref 2 20), (0, .nameAndType 21 18), (0, u "from"), (0, .fieldref 14 23), (0, .nameAndType 24 18), (0, u "firstTo"), (0, .fieldref 2 26), (0, .nameAndType 27 18), (0, u "to"), (0, .fieldref 14 29), (0, .nameAndType 30 31), (0, u "start"), (0, u "I"), (0, .fieldref 2 33), (0, .nameAndType 34 31), (0, u "at"), (11, u "(Lcom/example/portion/portion/server/OffsetSet$Page;)V"), (9, .class_ 57), (0, u "com/example/portion/portion/server/OffsetSet")] 3

def k6c0 : Code := { maxStack := 3, maxLocals := 2, code := prog_40_method_1_code, exceptionTable := #[], attributes := #[] }
def k6m0 : Method := { name := "<init>", desc := "(Lcom/example/portion/portion/server/OffsetSet$Page;)V", sig := { parameters := [(.object "com/example/portion/portion/server/OffsetSet$Page")], returnType := none }, accessFlags := 2, code := some k6c0 }
/-- com/example/portion/portion/server/OffsetSet$Page$Runs -/
def k6 : Class := { plain "com/example/portion/portion/server/OffsetSet$Page$Runs" (some 0) with
  accessFlags := 48
  interfaces := #[]
  cf := some (fileOf pool6 2 #[.nestHost 56] #[{ accessFlags := 2, nameIndex := 11, descriptorIndex := 46, attributes := #[] }] 48 8 #[] #[{ accessFlags := 2, nameIndex := 21, descriptorIndex := 18, attributes := #[] }, { accessFlags := 2, nameIndex := 27, descriptorIndex := 18, attributes := #[] }, { accessFlags := 2, nameIndex := 34, descriptorIndex := 31, attributes := #[] }, { accessFlags := 4112, nameIndex := 5, descriptorIndex := 6, attributes := #[] }])
  fields := #[{ name := "from", type := .long, accessFlags := 2, slot := 0, constantValue := 0 }, { name := "to", type := .long, accessFlags := 2, slot := 1, constantValue := 0 }, { name := "at", type := .int, accessFlags := 2, slot := 2, constantValue := 0 }, { name := "this$0", type := (.object "com/example/portion/portion/server/OffsetSet$Page"), accessFlags := 4112, slot := 3, constantValue := 0 }]
  methods := #[k6m0]
  instanceTypes := #[.long, .long, .int, (.object "com/example/portion/portion/server/OffsetSet$Page")]
  staticTypes := #[]
  resolved := Array.replicate 61 none
  statics := none }

def pool7 : Array CpInfo := pool [(1, u "java/lang/Cloneable"), (0, .class_ 1), (0, u "java/lang/Object"), (0, .class_ 3)] 3

/-- java/lang/Cloneable -/
def k7 : Class := { plain "java/lang/Cloneable" (some 0) with
  accessFlags := 1537
  interfaces := #[]
  cf := some (fileOf pool7 2 #[] #[] 1537 4 #[] #[])
  fields := #[]
  methods := #[]
  instanceTypes := #[]
  staticTypes := #[]
  resolved := Array.replicate 8 none
  statics := none }

def pool8 : Array CpInfo := pool [(1, u "java/io/Serializable"), (0, .class_ 1), (0, u "java/lang/Object"), (0, .class_ 3)] 3

/-- java/io/Serializable -/
def k8 : Class := { plain "java/io/Serializable" (some 0) with
  accessFlags := 1537
  interfaces := #[]
  cf := some (fileOf pool8 2 #[] #[] 1537 4 #[] #[])
  fields := #[]
  methods := #[]
  instanceTypes := #[]
  staticTypes := #[]
  resolved := Array.replicate 8 none
  statics := none }

/-- the primitive byte -/
def k9 : Class := { plain "byte" none with kind := .primitive 'B', accessFlags := 0x411 }
/-- [B -/
def k10 : Class := { plain "[B" (some 0) with kind := .array 9 .byte, interfaces := #[7, 8], accessFlags := 1041 }

/-- the primitive int -/
def k11 : Class := { plain "int" none with kind := .primitive 'I', accessFlags := 0x411 }
/-- [I -/
def k12 : Class := { plain "[I" (some 0) with kind := .array 11 .int, interfaces := #[7, 8], accessFlags := 1041 }

/-- [Lcom/example/portion/portion/server/OffsetSet$Page; -/
def k13 : Class := { plain "[Lcom/example/portion/portion/server/OffsetSet$Page;" (some 0) with kind := .array 4 (.object "com/example/portion/portion/server/OffsetSet$Page"), interfaces := #[7, 8], accessFlags := 1041 }

def heap : Heap := #[{ cls := 2, slots := #[.ref 2, .ref 1, .int 0, .int 0, .int 0, .int 0, .int 0], vm := .statics 2 },
  { cls := 13, slots := #[], vm := .none },
  { cls := 10, slots := #[], vm := .none }]
def classes : Array Class := #[k0, k1, k2, k3, k4, k5, k6, k7, k8, k9, k10, k11, k12, k13]
def interned : List (Array UInt16 × Addr) := []
def slotsUsed : Nat := 7
def theMethod : MethodId := ⟨1, 1⟩
def args0 : Array Value := #[.long 5, .long 5, .long 5, .int 5, .long 5, .int 5]
def aboutOver (below : List Frame) : State where
  vm := { classes := classes, interned := interned.toArray }
  heap := heap
  slotsUsed := slotsUsed
  threads := #[{ frames := .invoking theMethod args0 :: below }]
def below0 : List Frame := [.native { method := ⟨0, 0⟩, args := #[] }]
def about1 : State := aboutOver below0
def p0 : Program := .bare "" "" ""
def e0 : Env := launch0.env 0 0 0
theorem w_frames : about1.frames = Frame.invoking theMethod args0 :: below0 := rfl
set_option maxRecDepth 65536 in
theorem w_args : argsFit about1.vm theMethod args0 = true := by decide +kernel
set_option maxRecDepth 65536 in
theorem w_heap : heapFits about1 = true := by decide +kernel
set_option maxRecDepth 65536 in
theorem w_runnable : about1.curStatus? = some .runnable := by decide +kernel
set_option maxRecDepth 65536 in
theorem w_alone : about1.alone = true := by decide +kernel
set_option maxRecDepth 65536 in
theorem w_named : about1.methodNamed? x = some theMethod := by decide +kernel
set_option maxRecDepth 65536 in
theorem w_hears : about1.hears theMethod below0 = true := by decide +kernel
set_option maxRecDepth 65536 in
theorem w_ripe : about1.ripe theMethod args0 below0 = true := by decide +kernel
theorem w_running : about1.status = .running := rfl
set_option maxRecDepth 65536 in
theorem w_room : about1.hasRoom e0.platform room_1 = true :=
  launch0.hasRoom_least _ room_1 (by decide +kernel) (by decide +kernel) (by decide +kernel) (by decide +kernel) (by decide +kernel) (by decide +kernel)
theorem allAtoms_all (ts : List Jvm.Cond) (a : Array Jvm.Value) (st : Jvm.State) : (allAtoms ts).before a st = ts.all (fun c => c.before a st) := by
  induction ts with
  | nil => rfl
  | cons c t ih =>
    show (Jvm.Cond.and c (allAtoms t)).before a st = _
    rw [Jvm.Cond.before_and, ih, List.all_cons]
def words1 : List Jvm.Cond := Jvm.Cond.code x code maxLocals ret :: tables_1
/-- a 'code' word, met by the world's own term for the bytes: nothing is compared byte by byte -/
theorem code_word {y : MethodName} {bytes : ByteArray} {mx : Nat} {rt : Option FieldType} {a : Array Value} {s : State} {m : MethodId} {meth : Method} {c : Code} (h1 : s.methodNamed? y = some m) (h2 : s.vm.method? m = some meth) (h3 : meth.code = some c) (h4 : c.code = bytes)
    (h5 : (c.maxLocals == mx && c.exceptionTable.isEmpty && decide (c.maxStack ≤ mostOperands) && decide (meth.sig.returnType = rt) && !meth.locks && decide (parseMethodDescriptor y.desc = some meth.sig)) = true) : (Jvm.Cond.code y bytes mx rt).before a s = true := by
  simp only [Bool.and_eq_true, beq_iff_eq, Bool.not_eq_true', decide_eq_true_eq] at h5
  obtain ⟨⟨⟨⟨⟨g1, g2⟩, g3⟩, g4⟩, g5⟩, g6⟩ := h5
  simp [Cond.before, Cond.holds, Cond.value, h1, h2, h3, h4, g1, g2, g3, g4, g5, g6]
def isCode : Jvm.Cond → Bool
  | .code _ _ _ _ => true
  | _ => false
theorem all_split {L : List Jvm.Cond} {P : Jvm.Cond → Bool} (h1 : L.all (fun c => isCode c || P c) = true) (h2 : ∀ c ∈ L.filter isCode, P c = true) : L.all P = true := by
  refine List.all_eq_true.mpr fun c hc => ?_
  have h := List.all_eq_true.mp h1 c hc
  rcases Bool.eq_false_or_eq_true (isCode c) with hi | hi
  · exact h2 c (List.mem_filter.mpr ⟨hc, hi⟩)
  · simpa [hi] using h
set_option maxRecDepth 65536 in
theorem w_c0 : (Jvm.Cond.code x code maxLocals ret).before args0 about1 = true := code_word (m := ⟨1, 1⟩) (meth := k1m1) (c := k1c1) (by decide +kernel) rfl rfl rfl (by decide +kernel)
set_option maxRecDepth 65536 in
theorem w_c1 : (Jvm.Cond.code ({ cls := "com/example/portion/portion/server/OffsetSet", name := "<init>", desc := "(I)V" } : Jvm.MethodName) prog_38_method_2_code (2 : Nat) (Option.none : Option Jvm.ClassFile.FieldType)).before args0 about1 = true := code_word (m := ⟨2, 1⟩) (meth := k2m1) (c := k2c1) (by decide +kernel) rfl rfl rfl (by decide +kernel)
set_option maxRecDepth 65536 in
theorem w_c2 : (Jvm.Cond.code ({ cls := "java/lang/Object", name := "<init>", desc := "()V" } : Jvm.MethodName) object_method_1_code (1 : Nat) (Option.none : Option Jvm.ClassFile.FieldType)).before args0 about1 = true := code_word (m := ⟨0, 0⟩) (meth := k0m0) (c := k0c0) (by decide +kernel) rfl rfl rfl (by decide +kernel)
set_option maxRecDepth 65536 in
theorem w_c3 : (Jvm.Cond.code ({ cls := "com/example/portion/portion/server/OffsetSet", name := "add", desc := "(J)V" } : Jvm.MethodName) prog_38_method_8_code (3 : Nat) (Option.none : Option Jvm.ClassFile.FieldType)).before args0 about1 = true := code_word (m := ⟨2, 6⟩) (meth := k2m6) (c := k2c6) (by decide +kernel) rfl rfl rfl (by decide +kernel)
set_option maxRecDepth 65536 in
theorem w_c4 : (Jvm.Cond.code ({ cls := "com/example/portion/portion/server/OffsetSet", name := "addRange", desc := "(JJ)V" } : Jvm.MethodName) prog_38_method_9_code (8 : Nat) (Option.none : Option Jvm.ClassFile.FieldType)).before args0 about1 = true := code_word (m := ⟨2, 7⟩) (meth := k2m7) (c := k2c7) (by decide +kernel) rfl rfl rfl (by decide +kernel)
set_option maxRecDepth 65536 in
theorem w_c5 : (Jvm.Cond.code ({ cls := "com/example/portion/portion/server/OffsetSet", name := "requireRange", desc := "(JJ)V" } : Jvm.MethodName) prog_38_method_16_code (4 : Nat) (Option.none : Option Jvm.ClassFile.FieldType)).before args0 about1 = true := code_word (m := ⟨2, 9⟩) (meth := k2m9) (c := k2c9) (by decide +kernel) rfl rfl rfl (by decide +kernel)
set_option maxRecDepth 65536 in
theorem w_c6 : (Jvm.Cond.code ({ cls := "com/example/portion/portion/server/OffsetSet", name := "pageAt", desc := "(J)I" } : Jvm.MethodName) prog_38_method_18_code (6 : Nat) (Option.some Jvm.ClassFile.FieldType.int)).before args0 about1 = true := code_word (m := ⟨2, 10⟩) (meth := k2m10) (c := k2c10) (by decide +kernel) rfl rfl rfl (by decide +kernel)
set_option maxRecDepth 65536 in
theorem w_c7 : (Jvm.Cond.code ({ cls := "java/lang/Math", name := "max", desc := "(II)I" } : Jvm.MethodName) jdk_29_method_65_code (2 : Nat) (Option.some Jvm.ClassFile.FieldType.int)).before args0 about1 = true := code_word (m := ⟨3, 1⟩) (meth := k3m1) (c := k3c1) (by decide +kernel) rfl rfl rfl (by decide +kernel)
set_option maxRecDepth 65536 in
theorem w_c8 : (Jvm.Cond.code ({ cls := "com/example/portion/portion/server/OffsetSet", name := "append", desc := "(JJ)V" } : Jvm.MethodName) prog_38_method_19_code (5 : Nat) (Option.none : Option Jvm.ClassFile.FieldType)).before args0 about1 = true := code_word (m := ⟨2, 11⟩) (meth := k2m11) (c := k2c11) (by decide +kernel) rfl rfl rfl (by decide +kernel)
set_option maxRecDepth 65536 in
theorem w_c9 : (Jvm.Cond.code ({ cls := "com/example/portion/portion/server/OffsetSet", name := "appendTo", desc := "(IJJ)V" } : Jvm.MethodName) prog_38_method_20_code (9 : Nat) (Option.none : Option Jvm.ClassFile.FieldType)).before args0 about1 = true := code_word (m := ⟨2, 12⟩) (meth := k2m12) (c := k2c12) (by decide +kernel) rfl rfl rfl (by decide +kernel)
set_option maxRecDepth 65536 in
theorem w_c10 : (Jvm.Cond.code ({ cls := "com/example/portion/portion/server/OffsetSet$Page", name := "<init>", desc := "()V" } : Jvm.MethodName) prog_39_method_1_code (1 : Nat) (Option.none : Option Jvm.ClassFile.FieldType)).before args0 about1 = true := code_word (m := ⟨4, 0⟩) (meth := k4m0) (c := k4c0) (by decide +kernel) rfl rfl rfl (by decide +kernel)
set_option maxRecDepth 65536 in
theorem w_c11 : (Jvm.Cond.code ({ cls := "com/example/portion/portion/server/OffsetSet", name := "replacePages", desc := "(II[Lcom/example/portion/portion/server/OffsetSet$Page;I)V" } : Jvm.MethodName) prog_38_method_24_code (7 : Nat) (Option.none : Option Jvm.ClassFile.FieldType)).before args0 about1 = true := code_word (m := ⟨2, 13⟩) (meth := k2m13) (c := k2c13) (by decide +kernel) rfl rfl rfl (by decide +kernel)
set_option maxRecDepth 65536 in
theorem w_c12 : (Jvm.Cond.code ({ cls := "com/example/portion/portion/server/OffsetSet$Page", name := "extend", desc := "(JJ)V" } : Jvm.MethodName) prog_39_method_5_code (7 : Nat) (Option.none : Option Jvm.ClassFile.FieldType)).before args0 about1 = true := code_word (m := ⟨4, 4⟩) (meth := k4m4) (c := k4c4) (by decide +kernel) rfl rfl rfl (by decide +kernel)
set_option maxRecDepth 65536 in
theorem w_c13 : (Jvm.Cond.code ({ cls := "com/example/portion/portion/server/OffsetSet$Page", name := "lastRunTo", desc := "()J" } : Jvm.MethodName) prog_39_method_3_code (1 : Nat) (Option.some Jvm.ClassFile.FieldType.long)).before args0 about1 = true := code_word (m := ⟨4, 2⟩) (meth := k4m2) (c := k4c2) (by decide +kernel) rfl rfl rfl (by decide +kernel)
set_option maxRecDepth 65536 in
theorem w_c14 : (Jvm.Cond.code ({ cls := "com/example/portion/portion/server/OffsetSet$Page", name := "lastRunFrom", desc := "()J" } : Jvm.MethodName) prog_39_method_2_code (1 : Nat) (Option.some Jvm.ClassFile.FieldType.long)).before args0 about1 = true := code_word (m := ⟨4, 1⟩) (meth := k4m1) (c := k4c1) (by decide +kernel) rfl rfl rfl (by decide +kernel)
set_option maxRecDepth 65536 in
theorem w_c15 : (Jvm.Cond.code ({ cls := "com/example/portion/portion/server/OffsetSet$Page", name := "byteCount", desc := "()I" } : Jvm.MethodName) prog_39_method_4_code (1 : Nat) (Option.some Jvm.ClassFile.FieldType.int)).before args0 about1 = true := code_word (m := ⟨4, 3⟩) (meth := k4m3) (c := k4c3) (by decide +kernel) rfl rfl rfl (by decide +kernel)
set_option maxRecDepth 65536 in
theorem w_c16 : (Jvm.Cond.code ({ cls := "com/example/portion/portion/server/OffsetSet$Page", name := "makeRoom", desc := "(I)V" } : Jvm.MethodName) prog_39_method_16_code (2 : Nat) (Option.none : Option Jvm.ClassFile.FieldType)).before args0 about1 = true := code_word (m := ⟨4, 7⟩) (meth := k4m7) (c := k4c7) (by decide +kernel) rfl rfl rfl (by decide +kernel)
set_option maxRecDepth 65536 in
theorem w_c17 : (Jvm.Cond.code ({ cls := "com/example/portion/portion/server/OffsetSet$Page", name := "withRoom", desc := "(I)I" } : Jvm.MethodName) prog_39_method_17_code (1 : Nat) (Option.some Jvm.ClassFile.FieldType.int)).before args0 about1 = true := code_word (m := ⟨4, 8⟩) (meth := k4m8) (c := k4c8) (by decide +kernel) rfl rfl rfl (by decide +kernel)
set_option maxRecDepth 65536 in
theorem w_c18 : (Jvm.Cond.code ({ cls := "com/example/portion/portion/server/OffsetSet$Page", name := "moveTo", desc := "(I)V" } : Jvm.MethodName) prog_39_method_18_code (3 : Nat) (Option.none : Option Jvm.ClassFile.FieldType)).before args0 about1 = true := code_word (m := ⟨4, 9⟩) (meth := k4m9) (c := k4c9) (by decide +kernel) rfl rfl rfl (by decide +kernel)
set_option maxRecDepth 65536 in
theorem w_c19 : (Jvm.Cond.code ({ cls := "com/example/portion/portion/server/OffsetSet$Page", name := "writeLastRun", desc := "()V" } : Jvm.MethodName) prog_39_method_19_code (8 : Nat) (Option.none : Option Jvm.ClassFile.FieldType)).before args0 about1 = true := code_word (m := ⟨4, 10⟩) (meth := k4m10) (c := k4c10) (by decide +kernel) rfl rfl rfl (by decide +kernel)
set_option maxRecDepth 65536 in
theorem w_c20 : (Jvm.Cond.code ({ cls := "com/example/portion/portion/server/OffsetSet", name := "clear", desc := "()V" } : Jvm.MethodName) prog_38_method_13_code (1 : Nat) (Option.none : Option Jvm.ClassFile.FieldType)).before args0 about1 = true := code_word (m := ⟨2, 8⟩) (meth := k2m8) (c := k2c8) (by decide +kernel) rfl rfl rfl (by decide +kernel)
set_option maxRecDepth 65536 in
theorem w_c21 : (Jvm.Cond.code ({ cls := "com/example/portion/portion/server/OffsetSet", name := "isEmpty", desc := "()Z" } : Jvm.MethodName) prog_38_method_3_code (1 : Nat) (Option.some Jvm.ClassFile.FieldType.boolean)).before args0 about1 = true := code_word (m := ⟨2, 2⟩) (meth := k2m2) (c := k2c2) (by decide +kernel) rfl rfl rfl (by decide +kernel)
set_option maxRecDepth 65536 in
theorem w_c22 : (Jvm.Cond.code ({ cls := "com/example/portion/portion/server/OffsetSet", name := "contains", desc := "(J)Z" } : Jvm.MethodName) prog_38_method_7_code (4 : Nat) (Option.some Jvm.ClassFile.FieldType.boolean)).before args0 about1 = true := code_word (m := ⟨2, 5⟩) (meth := k2m5) (c := k2c5) (by decide +kernel) rfl rfl rfl (by decide +kernel)
set_option maxRecDepth 65536 in
theorem w_c23 : (Jvm.Cond.code ({ cls := "com/example/portion/portion/server/OffsetSet", name := "size", desc := "()J" } : Jvm.MethodName) prog_38_method_4_code (1 : Nat) (Option.some Jvm.ClassFile.FieldType.long)).before args0 about1 = true := code_word (m := ⟨2, 3⟩) (meth := k2m3) (c := k2c3) (by decide +kernel) rfl rfl rfl (by decide +kernel)
set_option maxRecDepth 65536 in
theorem w_c24 : (Jvm.Cond.code ({ cls := "com/example/portion/portion/server/OffsetSet", name := "first", desc := "()J" } : Jvm.MethodName) prog_38_method_5_code (1 : Nat) (Option.some Jvm.ClassFile.FieldType.long)).before args0 about1 = true := code_word (m := ⟨2, 4⟩) (meth := k2m4) (c := k2c4) (by decide +kernel) rfl rfl rfl (by decide +kernel)
set_option maxRecDepth 65536 in
theorem w_c25 : (Jvm.Cond.code ({ cls := "com/example/portion/portion/server/OffsetSet$Page", name := "contains", desc := "(J)Z" } : Jvm.MethodName) prog_39_method_11_code (6 : Nat) (Option.some Jvm.ClassFile.FieldType.boolean)).before args0 about1 = true := code_word (m := ⟨4, 5⟩) (meth := k4m5) (c := k4c5) (by decide +kernel) rfl rfl rfl (by decide +kernel)
set_option maxRecDepth 65536 in
theorem w_c26 : (Jvm.Cond.code ({ cls := "com/example/portion/portion/server/OffsetSet$Page", name := "write", desc := "(J)V" } : Jvm.MethodName) prog_39_method_20_code (5 : Nat) (Option.none : Option Jvm.ClassFile.FieldType)).before args0 about1 = true := code_word (m := ⟨4, 11⟩) (meth := k4m11) (c := k4c11) (by decide +kernel) rfl rfl rfl (by decide +kernel)
set_option maxRecDepth 65536 in
theorem w_c27 : (Jvm.Cond.code ({ cls := "com/example/portion/portion/server/OffsetSet$Page", name := "trim", desc := "()V" } : Jvm.MethodName) prog_39_method_13_code (1 : Nat) (Option.none : Option Jvm.ClassFile.FieldType)).before args0 about1 = true := code_word (m := ⟨4, 6⟩) (meth := k4m6) (c := k4c6) (by decide +kernel) rfl rfl rfl (by decide +kernel)
set_option maxRecDepth 65536 in
theorem w_c28 : (Jvm.Cond.code ({ cls := "com/example/portion/portion/server/OffsetSet$Page$Runs", name := "<init>", desc := "(Lcom/example/portion/portion/server/OffsetSet$Page;)V" } : Jvm.MethodName) prog_40_method_1_code (2 : Nat) (Option.none : Option Jvm.ClassFile.FieldType)).before args0 about1 = true := code_word (m := ⟨6, 0⟩) (meth := k6m0) (c := k6c0) (by decide +kernel) rfl rfl rfl (by decide +kernel)
def codes1 : List Jvm.Cond := [Jvm.Cond.code x code maxLocals ret, Jvm.Cond.code ({ cls := "com/example/portion/portion/server/OffsetSet", name := "<init>", desc := "(I)V" } : Jvm.MethodName) prog_38_method_2_code (2 : Nat) (Option.none : Option Jvm.ClassFile.FieldType), Jvm.Cond.code ({ cls := "java/lang/Object", name := "<init>", desc := "()V" } : Jvm.MethodName) object_method_1_code (1 : Nat) (Option.none : Option Jvm.ClassFile.FieldType), Jvm.Cond.code ({ cls := "com/example/portion/portion/server/OffsetSet", name := "add", desc := "(J)V" } : Jvm.MethodName) prog_38_method_8_code (3 : Nat) (Option.none : Option Jvm.ClassFile.FieldType), Jvm.Cond.code ({ cls := "com/example/portion/portion/server/OffsetSet", name := "addRange", desc := "(JJ)V" } : Jvm.MethodName) prog_38_method_9_code (8 : Nat) (Option.none : Option Jvm.ClassFile.FieldType), Jvm.Cond.code ({ cls := "com/example/portion/portion/server/OffsetSet", name := "requireRange", desc := "(JJ)V" } : Jvm.MethodName) prog_38_method_16_code (4 : Nat) (Option.none : Option Jvm.ClassFile.FieldType), Jvm.Cond.code ({ cls := "com/example/portion/portion/server/OffsetSet", name := "pageAt", desc := "(J)I" } : Jvm.MethodName) prog_38_method_18_code (6 : Nat) (Option.some Jvm.ClassFile.FieldType.int), Jvm.Cond.code ({ cls := "java/lang/Math", name := "max", desc := "(II)I" } : Jvm.MethodName) jdk_29_method_65_code (2 : Nat) (Option.some Jvm.ClassFile.FieldType.int), Jvm.Cond.code ({ cls := "com/example/portion/portion/server/OffsetSet", name := "append", desc := "(JJ)V" } : Jvm.MethodName) prog_38_method_19_code (5 : Nat) (Option.none : Option Jvm.ClassFile.FieldType), Jvm.Cond.code ({ cls := "com/example/portion/portion/server/OffsetSet", name := "appendTo", desc := "(IJJ)V" } : Jvm.MethodName) prog_38_method_20_code (9 : Nat) (Option.none : Option Jvm.ClassFile.FieldType), Jvm.Cond.code ({ cls := "com/example/portion/portion/server/OffsetSet$Page", name := "<init>", desc := "()V" } : Jvm.MethodName) prog_39_method_1_code (1 : Nat) (Option.none : Option Jvm.ClassFile.FieldType), Jvm.Cond.code ({ cls := "com/example/portion/portion/server/OffsetSet", name := "replacePages", desc := "(II[Lcom/example/portion/portion/server/OffsetSet$Page;I)V" } : Jvm.MethodName) prog_38_method_24_code (7 : Nat) (Option.none : Option Jvm.ClassFile.FieldType), Jvm.Cond.code ({ cls := "com/example/portion/portion/server/OffsetSet$Page", name := "extend", desc := "(JJ)V" } : Jvm.MethodName) prog_39_method_5_code (7 : Nat) (Option.none : Option Jvm.ClassFile.FieldType), Jvm.Cond.code ({ cls := "com/example/portion/portion/server/OffsetSet$Page", name := "lastRunTo", desc := "()J" } : Jvm.MethodName) prog_39_method_3_code (1 : Nat) (Option.some Jvm.ClassFile.FieldType.long), Jvm.Cond.code ({ cls := "com/example/portion/portion/server/OffsetSet$Page", name := "lastRunFrom", desc := "()J" } : Jvm.MethodName) prog_39_method_2_code (1 : Nat) (Option.some Jvm.ClassFile.FieldType.long), Jvm.Cond.code ({ cls := "com/example/portion/portion/server/OffsetSet$Page", name := "byteCount", desc := "()I" } : Jvm.MethodName) prog_39_method_4_code (1 : Nat) (Option.some Jvm.ClassFile.FieldType.int), Jvm.Cond.code ({ cls := "com/example/portion/portion/server/OffsetSet$Page", name := "makeRoom", desc := "(I)V" } : Jvm.MethodName) prog_39_method_16_code (2 : Nat) (Option.none : Option Jvm.ClassFile.FieldType), Jvm.Cond.code ({ cls := "com/example/portion/portion/server/OffsetSet$Page", name := "withRoom", desc := "(I)I" } : Jvm.MethodName) prog_39_method_17_code (1 : Nat) (Option.some Jvm.ClassFile.FieldType.int), Jvm.Cond.code ({ cls := "com/example/portion/portion/server/OffsetSet$Page", name := "moveTo", desc := "(I)V" } : Jvm.MethodName) prog_39_method_18_code (3 : Nat) (Option.none : Option Jvm.ClassFile.FieldType), Jvm.Cond.code ({ cls := "com/example/portion/portion/server/OffsetSet$Page", name := "writeLastRun", desc := "()V" } : Jvm.MethodName) prog_39_method_19_code (8 : Nat) (Option.none : Option Jvm.ClassFile.FieldType), Jvm.Cond.code ({ cls := "com/example/portion/portion/server/OffsetSet", name := "clear", desc := "()V" } : Jvm.MethodName) prog_38_method_13_code (1 : Nat) (Option.none : Option Jvm.ClassFile.FieldType), Jvm.Cond.code ({ cls := "com/example/portion/portion/server/OffsetSet", name := "isEmpty", desc := "()Z" } : Jvm.MethodName) prog_38_method_3_code (1 : Nat) (Option.some Jvm.ClassFile.FieldType.boolean), Jvm.Cond.code ({ cls := "com/example/portion/portion/server/OffsetSet", name := "contains", desc := "(J)Z" } : Jvm.MethodName) prog_38_method_7_code (4 : Nat) (Option.some Jvm.ClassFile.FieldType.boolean), Jvm.Cond.code ({ cls := "com/example/portion/portion/server/OffsetSet", name := "size", desc := "()J" } : Jvm.MethodName) prog_38_method_4_code (1 : Nat) (Option.some Jvm.ClassFile.FieldType.long), Jvm.Cond.code ({ cls := "com/example/portion/portion/server/OffsetSet", name := "first", desc := "()J" } : Jvm.MethodName) prog_38_method_5_code (1 : Nat) (Option.some Jvm.ClassFile.FieldType.long), Jvm.Cond.code ({ cls := "com/example/portion/portion/server/OffsetSet$Page", name := "contains", desc := "(J)Z" } : Jvm.MethodName) prog_39_method_11_code (6 : Nat) (Option.some Jvm.ClassFile.FieldType.boolean), Jvm.Cond.code ({ cls := "com/example/portion/portion/server/OffsetSet$Page", name := "write", desc := "(J)V" } : Jvm.MethodName) prog_39_method_20_code (5 : Nat) (Option.none : Option Jvm.ClassFile.FieldType), Jvm.Cond.code ({ cls := "com/example/portion/portion/server/OffsetSet$Page", name := "trim", desc := "()V" } : Jvm.MethodName) prog_39_method_13_code (1 : Nat) (Option.none : Option Jvm.ClassFile.FieldType), Jvm.Cond.code ({ cls := "com/example/portion/portion/server/OffsetSet$Page$Runs", name := "<init>", desc := "(Lcom/example/portion/portion/server/OffsetSet$Page;)V" } : Jvm.MethodName) prog_40_method_1_code (2 : Nat) (Option.none : Option Jvm.ClassFile.FieldType)]
set_option maxRecDepth 65536 in
theorem codes_eq : words1.filter isCode = codes1 := rfl
theorem w_codes : ∀ c ∈ words1.filter isCode, c.before args0 about1 = true := by
  rw [codes_eq]
  intro c hc
  simp only [codes1, List.mem_cons, List.not_mem_nil, or_false] at hc
  rcases hc with rfl | rfl | rfl | rfl | rfl | rfl | rfl | rfl | rfl | rfl | rfl | rfl | rfl | rfl | rfl | rfl | rfl | rfl | rfl | rfl | rfl | rfl | rfl | rfl | rfl | rfl | rfl | rfl | rfl
  · exact w_c0
  · exact w_c1
  · exact w_c2
  · exact w_c3
  · exact w_c4
  · exact w_c5
  · exact w_c6
  · exact w_c7
  · exact w_c8
  · exact w_c9
  · exact w_c10
  · exact w_c11
  · exact w_c12
  · exact w_c13
  · exact w_c14
  · exact w_c15
  · exact w_c16
  · exact w_c17
  · exact w_c18
  · exact w_c19
  · exact w_c20
  · exact w_c21
  · exact w_c22
  · exact w_c23
  · exact w_c24
  · exact w_c25
  · exact w_c26
  · exact w_c27
  · exact w_c28
set_option maxRecDepth 65536 in
theorem w_t1 : (words1.take 24).all (fun c => isCode c || c.before args0 about1) = true := by decide +kernel
set_option maxRecDepth 65536 in
theorem w_t2 : ((words1.drop 24).take 24).all (fun c => isCode c || c.before args0 about1) = true := by decide +kernel
set_option maxRecDepth 65536 in
theorem w_t3 : (((words1.drop 24).drop 24).take 24).all (fun c => isCode c || c.before args0 about1) = true := by decide +kernel
set_option maxRecDepth 65536 in
theorem w_t4 : ((((words1.drop 24).drop 24).drop 24).take 24).all (fun c => isCode c || c.before args0 about1) = true := by decide +kernel
set_option maxRecDepth 65536 in
theorem w_t5 : (((((words1.drop 24).drop 24).drop 24).drop 24).take 24).all (fun c => isCode c || c.before args0 about1) = true := by decide +kernel
set_option maxRecDepth 65536 in
theorem w_t6 : ((((((words1.drop 24).drop 24).drop 24).drop 24).drop 24).take 24).all (fun c => isCode c || c.before args0 about1) = true := by decide +kernel
set_option maxRecDepth 65536 in
theorem w_t7 : (((((((words1.drop 24).drop 24).drop 24).drop 24).drop 24).drop 24).take 24).all (fun c => isCode c || c.before args0 about1) = true := by decide +kernel
set_option maxRecDepth 65536 in
theorem w_t8 : ((((((((words1.drop 24).drop 24).drop 24).drop 24).drop 24).drop 24).drop 24).take 24).all (fun c => isCode c || c.before args0 about1) = true := by decide +kernel
set_option maxRecDepth 65536 in
theorem w_t9 : ((((((((words1.drop 24).drop 24).drop 24).drop 24).drop 24).drop 24).drop 24).drop 24).all (fun c => isCode c || c.before args0 about1) = true := by decide +kernel
theorem w_tables : (allAtoms (Jvm.Cond.code x code maxLocals ret :: tables_1)).before args0 about1 = true := by
  rw [allAtoms_all]
  show words1.all (fun c => c.before args0 about1) = true
  refine all_split ?_ w_codes
  rw [← List.take_append_drop 24 words1, List.all_append, w_t1, ← List.take_append_drop 24 (words1.drop 24), List.all_append, w_t2, ← List.take_append_drop 24 ((words1.drop 24).drop 24), List.all_append, w_t3, ← List.take_append_drop 24 (((words1.drop 24).drop 24).drop 24), List.all_append, w_t4, ← List.take_append_drop 24 ((((words1.drop 24).drop 24).drop 24).drop 24), List.all_append, w_t5, ← List.take_append_drop 24 (((((words1.drop 24).drop 24).drop 24).drop 24).drop 24), List.all_append, w_t6, ← List.take_append_drop 24 ((((((words1.drop 24).drop 24).drop 24).drop 24).drop 24).drop 24), List.all_append, w_t7, ← List.take_append_drop 24 (((((((words1.drop 24).drop 24).drop 24).drop 24).drop 24).drop 24).drop 24), List.all_append, w_t8, w_t9]
  rfl
set_option maxRecDepth 65536 in
theorem w_case : (Jvm.Cond.and given_1 narrow_1).before args0 about1 = true := by decide +kernel
theorem w_applies : (headSpec (Jvm.Cond.code x code maxLocals ret :: tables_1) room_1).applies x e0.platform about1 = true :=
  (Spec.applies_iff w_frames).mpr ⟨w_running, w_runnable, w_alone, w_named, w_hears, w_ripe, w_room, w_tables⟩
theorem atStart : AtStart classFile x code maxLocals ret World_1 tables_1 room_1 Calls_1 rest_1 Pre_1 launch0 p0 e0 about1 theMethod args0 below0 :=
  ⟨lists_1, trivial, launch0.admits_env _ _ _, launch0.least_env, fairChoices_fair.cas, fairChoices_fair.clock, w_frames, w_args, w_heap, w_applies, trivial, trivial, w_case⟩
end start1
theorem witness_1 : WitnessClaimed_1 := ⟨start1.p0, start1.e0, start1.about1, start1.theMethod, start1.args0, start1.below0, start1.atStart⟩
end Jvm.Pilot.@@N@@
