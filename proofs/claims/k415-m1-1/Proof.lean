import JvmDerived
import JvmDerived.Pilot.@@N@@Statement
import JvmDerived.Pilot.@@N@@Code
set_option linter.unusedVariables false
set_option linter.unusedSimpArgs false
namespace Jvm.OwnWalk
open Sem ClassFile Op Lib Jvm.Stand Jvm.Free Jvm.LawKit Jvm.RoadKit
/-- from t the run comes to an end of which P holds -/
def Win (tb : Tables) (e : Env) (below : List Frame) (P : State → Outcome → Prop) (t : State) : Prop :=
  ∃ s₂ o, Steps tb e below t s₂ ∧ s₂.status = .running ∧ Ended s₂ below o ∧ P s₂ o
theorem Win.go {tb : Tables} {e : Env} {below : List Frame} {P : State → Outcome → Prop} {t t' : State} (st : ∀ z, Steps tb e below t' z → Steps tb e below t z) (w : Win tb e below P t') : Win tb e below P t := by
  obtain ⟨s2, o, h, r⟩ := w; exact ⟨s2, o, st _ h, r⟩
theorem Win.come {tb : Tables} {e : Env} {below : List Frame} {P : State → Outcome → Prop} {t t' : State} (st : Steps tb e below t t') (w : Win tb e below P t') : Win tb e below P t := by
  obtain ⟨s2, o, h, r⟩ := w; exact ⟨s2, o, st.trans h, r⟩
/-- the body has returned v with the heap h, L written -/
def PostQ (s : State) (Q : Option Value → Heap → List Loc → Prop) (C S : Nat) (u : State) (o : Outcome) : Prop := ∃ v L, o = .returned v ∧ Q v u.heap L ∧ FrameEnd s o u L C S
section Ret
variable {p : Program} {l : Launch} {e : Env} {R : Room} {s : State} {m : MethodId} {args : Array Value} {below : List Frame} {meth : Method} {c : Code} {T : State} {locs : List Loc} {cells slots : Nat} {h : Heap} {Q : Option Value → Heap → List Loc → Prop} {C S : Nat}
theorem retI' (X : Stand p l e R s m args below meth c T locs cells slots) (hx : p.tables.exec = Jvm.exec) {pc : Nat} {Ls : Array Slot} {z : Int32} {rest : List Value} (hret : meth.sig.returnType = some .int) (hd : decode c.code pc = .ok (.ireturn, 1)) {fs : List Frame}
    (hl : ∀ (f : JFrame) (acts : List Action), f.method = m → f.locked = none → f.entered = [] → (doReturn e (T.setTop f) acts (some (.int z))).1 = T.setFrames fs) : Steps p.tables e below (T.setTop (mkF m pc Ls (.int z :: rest))) (T.setFrames fs) := by
  have hm' : T.vm.method? m = some meth := X.method'
  have hn : narrow .int (.int z) = .int z := rfl
  show Steps p.tables e below (T.setTop { method := m, pc := pc, locals := Ls, stack := _ :: rest, locked := none }) _
  jvm_step X.here [X.here.top, hx, hd, hm', hret, hn]
  first | (intro acts; rw [hl _ acts rfl rfl rfl]) | rw [hl _ _ rfl rfl rfl]
  exact Steps.refl _
theorem retA' (X : Stand p l e R s m args below meth c T locs cells slots) (hx : p.tables.exec = Jvm.exec) {pc : Nat} {Ls : Array Slot} {w : Value} {t : FieldType} (hret : meth.sig.returnType = some t) (ht : t.isReference = true) (hv : w.isRef = true) (hd : decode c.code pc = .ok (.areturn, 1)) {fs : List Frame}
    (hl : ∀ (f : JFrame) (acts : List Action), f.method = m → f.locked = none → f.entered = [] → (doReturn e (T.setTop f) acts (some w)).1 = T.setFrames fs) : Steps p.tables e below (T.setTop (mkF m pc Ls [w])) (T.setFrames fs) := by
  have hm' : T.vm.method? m = some meth := X.method'
  show Steps p.tables e below (T.setTop { method := m, pc := pc, locals := Ls, stack := [w], locked := none }) _
  jvm_step X.here [X.here.top, hx, hd, hm', hret, hv, ht]
  first | (intro acts; rw [hl _ acts rfl rfl rfl]) | rw [hl _ _ rfl rfl rfl]
  exact Steps.refl _
theorem winI (X : Stand p l e R s m args below meth c T locs cells slots) (hx : p.tables.exec = Jvm.exec) (hlk : meth.locks = false) (eT : T.heap = h) {pc : Nat} {Ls : Array Slot} {z : Int32} {rest : List Value} (hret : meth.sig.returnType = some .int) (hd : decode c.code pc = .ok (.ireturn, 1))
    (hc : cells ≤ C) (hs : slots ≤ S) (hQ : Q (some (.int z)) h locs) : Win p.tables e below (PostQ s Q C S) (T.setTop (mkF m pc Ls (.int z :: rest))) := by
  subst eT
  obtain ⟨fs, hr, hrun, hended, hW, hsame⟩ := X.leave (v := some (.int z)) (fun h => by rw [hret] at h; cases h) hlk
  exact ⟨_, _, retI' X hx hret hd hr, hrun, hended, _, _, rfl, hQ, ⟨_, rfl⟩, hW, hsame.mono hc hs⟩
theorem winN (X : Stand p l e R s m args below meth c T locs cells slots) (hx : p.tables.exec = Jvm.exec) (hlk : meth.locks = false) (eT : T.heap = h) {pc : Nat} {Ls : Array Slot} {z z' : Int32} {rest : List Value} {t : FieldType} (hret : meth.sig.returnType = some t) (ht : t = .boolean ∨ t = .byte ∨ t = .char ∨ t = .short) (hd : decode c.code pc = .ok (.ireturn, 1))
    (hc : cells ≤ C) (hs : slots ≤ S) (hz : nar t z = z') (hQ : Q (some (.int z')) h locs) : Win p.tables e below (PostQ s Q C S) (T.setTop (mkF m pc Ls (.int z :: rest))) := by
  subst eT hz
  obtain ⟨fs, hr, hrun, hended, hW, hsame⟩ := X.leave (v := some (.int (nar t z))) (fun h => by rw [hret] at h; cases h) hlk
  exact ⟨_, _, retN X hx hret ht hd hr, hrun, hended, _, _, rfl, hQ, ⟨_, rfl⟩, hW, hsame.mono hc hs⟩
theorem winL (X : Stand p l e R s m args below meth c T locs cells slots) (hx : p.tables.exec = Jvm.exec) (hlk : meth.locks = false) (eT : T.heap = h) {pc : Nat} {Ls : Array Slot} {z : Int64} (hret : meth.sig.returnType = some .long) (hd : decode c.code pc = .ok (.lreturn, 1))
    (hc : cells ≤ C) (hs : slots ≤ S) (hQ : Q (some (.long z)) h locs) : Win p.tables e below (PostQ s Q C S) (T.setTop (mkF m pc Ls [.long z])) := by
  subst eT
  obtain ⟨fs, hr, hrun, hended, hW, hsame⟩ := X.leave (v := some (.long z)) (fun h => by rw [hret] at h; cases h) hlk
  exact ⟨_, _, X.lreturnOut hx hret hd hr, hrun, hended, _, _, rfl, hQ, ⟨_, rfl⟩, hW, hsame.mono hc hs⟩
theorem winA (X : Stand p l e R s m args below meth c T locs cells slots) (hx : p.tables.exec = Jvm.exec) (hlk : meth.locks = false) (eT : T.heap = h) {pc : Nat} {Ls : Array Slot} {w : Value} {t : FieldType} (hret : meth.sig.returnType = some t) (ht : t.isReference = true) (hv : w.isRef = true) (hd : decode c.code pc = .ok (.areturn, 1))
    (hc : cells ≤ C) (hs : slots ≤ S) (hQ : Q (some w) h locs) : Win p.tables e below (PostQ s Q C S) (T.setTop (mkF m pc Ls [w])) := by
  subst eT
  obtain ⟨fs, hr, hrun, hended, hW, hsame⟩ := X.leave (v := some w) (fun h => by rw [hret] at h; cases h) hlk
  exact ⟨_, _, retA' X hx hret ht hv hd hr, hrun, hended, _, _, rfl, hQ, ⟨_, rfl⟩, hW, hsame.mono hc hs⟩
theorem winV (X : Stand p l e R s m args below meth c T locs cells slots) (hx : p.tables.exec = Jvm.exec) (hlk : meth.locks = false) (eT : T.heap = h) {pc : Nat} {Ls : Array Slot} (hret : meth.sig.returnType = none) (hd : decode c.code pc = .ok (.return_, 1))
    (hc : cells ≤ C) (hs : slots ≤ S) (hQ : Q none h locs) : Win p.tables e below (PostQ s Q C S) (T.setTop (mkF m pc Ls [])) := by
  subst eT
  obtain ⟨fs, hr, hrun, hended, hW, hsame⟩ := X.leave (v := none) (fun _ => rfl) hlk
  exact ⟨_, _, X.returnOut hx hret hd hr, hrun, hended, _, _, rfl, hQ, ⟨_, rfl⟩, hW, hsame.mono hc hs⟩
def PostQW (s : State) (Q : Option Value → Heap → List Loc → Prop) (C S : Nat) (u : State) (o : Outcome) : Prop := ∃ v L, o = .returned v ∧ Q v u.heap L ∧ ReturnedEndW s o u L C S
theorem winNW {vm0 : Vm} {k0 : Nat} (hS : s.Since vm0 k0) (hk : k0 ≤ h.size) (X : Stand p l e R (s.setVm vm0) m args below meth c T locs cells slots) (hx : p.tables.exec = Jvm.exec) (hlk : meth.locks = false) (eT : T.heap = h) {pc : Nat} {Ls : Array Slot} {z z' : Int32} {rest : List Value} {t : FieldType} (hret : meth.sig.returnType = some t) (ht : t = .boolean ∨ t = .byte ∨ t = .char ∨ t = .short) (hd : decode c.code pc = .ok (.ireturn, 1))
    (hc : cells ≤ C) (hs : slots ≤ S) (hz : nar t z = z') (hQ : Q (some (.int z')) h locs) : Win p.tables e below (PostQW s Q C S) (T.setTop (mkF m pc Ls (.int z :: rest))) := by
  subst eT hz
  obtain ⟨fs, hr, hrun, hended, h1, h2, h3, h4⟩ := X.leaveW hS hk (v := some (.int (nar t z))) (fun h => by rw [hret] at h; cases h) hlk
  exact ⟨_, _, retN X hx hret ht hd hr, hrun, hended, _, _, rfl, hQ, ⟨_, rfl⟩, h2, h3, h4.mono hc hs⟩
end Ret
section Steps
variable {tb : Tables} [Ours tb] {e : Env} {below : List Frame} {P : State → Outcome → Prop} {T : State} {m : MethodId} {c : Code} {pc pc' : Nat} {ls : Array Slot} {st : List Value}
theorem s_iloadN {k : Fin 4} {v : Int32} (h : At T m c below) (hx : tb.exec = Jvm.exec) (hd : decode c.code pc = .ok (.iload_n k, 1)) (hp : pc + 1 = pc') (hl : ls[k.val]? = some (.val (.int v))) (w : Win tb e below P (T.setTop (mkF m pc' ls (.int v :: st)))) : Win tb e below P (T.setTop (mkF m pc ls st)) := by
  subst hp; exact Win.go (fun _ k => XS.iloadN h hx rfl hd hl k) w
theorem s_iload {k : Nat} {v : Int32} (h : At T m c below) (hx : tb.exec = Jvm.exec) (hd : decode c.code pc = .ok (.iload k, 2)) (hp : pc + 2 = pc') (hl : ls[k]? = some (.val (.int v))) (w : Win tb e below P (T.setTop (mkF m pc' ls (.int v :: st)))) : Win tb e below P (T.setTop (mkF m pc ls st)) := by
  subst hp; exact Win.go (fun _ k => XS.iload h hx rfl hd hl k) w
theorem s_lloadN {k : Fin 4} {v : Int64} (h : At T m c below) (hx : tb.exec = Jvm.exec) (hd : decode c.code pc = .ok (.lload_n k, 1)) (hp : pc + 1 = pc') (hl : ls[k.val]? = some (.val (.long v))) (w : Win tb e below P (T.setTop (mkF m pc' ls (.long v :: st)))) : Win tb e below P (T.setTop (mkF m pc ls st)) := by
  subst hp; exact Win.go (fun _ k => XS.lloadN h hx rfl hd hl k) w
theorem s_lload {k : Nat} {v : Int64} (h : At T m c below) (hx : tb.exec = Jvm.exec) (hd : decode c.code pc = .ok (.lload k, 2)) (hp : pc + 2 = pc') (hl : ls[k]? = some (.val (.long v))) (w : Win tb e below P (T.setTop (mkF m pc' ls (.long v :: st)))) : Win tb e below P (T.setTop (mkF m pc ls st)) := by
  subst hp; exact Win.go (fun _ k => XS.lload h hx rfl hd hl k) w
theorem s_aloadN {k : Fin 4} {v : Value} (h : At T m c below) (hx : tb.exec = Jvm.exec) (hd : decode c.code pc = .ok (.aload_n k, 1)) (hp : pc + 1 = pc') (hl : ls[k.val]? = some (.val v)) (hv : v.isRef = true) (w : Win tb e below P (T.setTop (mkF m pc' ls (v :: st)))) : Win tb e below P (T.setTop (mkF m pc ls st)) := by
  subst hp; exact Win.go (fun _ k => XS.aloadN h hx rfl hd hl hv k) w
theorem s_aload {k : Nat} {v : Value} (h : At T m c below) (hx : tb.exec = Jvm.exec) (hd : decode c.code pc = .ok (.aload k, 2)) (hp : pc + 2 = pc') (hl : ls[k]? = some (.val v)) (hv : v.isRef = true) (w : Win tb e below P (T.setTop (mkF m pc' ls (v :: st)))) : Win tb e below P (T.setTop (mkF m pc ls st)) := by
  subst hp; exact Win.go (fun _ k => XS.aload h hx rfl hd hl hv k) w
theorem s_iadd {x y : Int32} (h : At T m c below) (hx : tb.exec = Jvm.exec) (hd : decode c.code pc = .ok (.iadd, 1)) (hp : pc + 1 = pc') (w : Win tb e below P (T.setTop (mkF m pc' ls (.int (x + y) :: st)))) : Win tb e below P (T.setTop (mkF m pc ls (.int y :: .int x :: st))) := by
  subst hp; exact Win.go (fun _ k => XS.iadd h hx rfl hd rfl k) w
theorem s_isub {x y : Int32} (h : At T m c below) (hx : tb.exec = Jvm.exec) (hd : decode c.code pc = .ok (.isub, 1)) (hp : pc + 1 = pc') (w : Win tb e below P (T.setTop (mkF m pc' ls (.int (x - y) :: st)))) : Win tb e below P (T.setTop (mkF m pc ls (.int y :: .int x :: st))) := by
  subst hp; exact Win.go (fun _ k => XS.isub h hx rfl hd rfl k) w
theorem s_imul {x y : Int32} (h : At T m c below) (hx : tb.exec = Jvm.exec) (hd : decode c.code pc = .ok (.imul, 1)) (hp : pc + 1 = pc') (w : Win tb e below P (T.setTop (mkF m pc' ls (.int (x * y) :: st)))) : Win tb e below P (T.setTop (mkF m pc ls (.int y :: .int x :: st))) := by
  subst hp; exact Win.go (fun _ k => XS.imul h hx rfl hd rfl k) w
theorem s_iand {x y : Int32} (h : At T m c below) (hx : tb.exec = Jvm.exec) (hd : decode c.code pc = .ok (.iand, 1)) (hp : pc + 1 = pc') (w : Win tb e below P (T.setTop (mkF m pc' ls (.int (x &&& y) :: st)))) : Win tb e below P (T.setTop (mkF m pc ls (.int y :: .int x :: st))) := by
  subst hp; exact Win.go (fun _ k => XS.iand h hx rfl hd rfl k) w
theorem s_ior {x y : Int32} (h : At T m c below) (hx : tb.exec = Jvm.exec) (hd : decode c.code pc = .ok (.ior, 1)) (hp : pc + 1 = pc') (w : Win tb e below P (T.setTop (mkF m pc' ls (.int (x ||| y) :: st)))) : Win tb e below P (T.setTop (mkF m pc ls (.int y :: .int x :: st))) := by
  subst hp; exact Win.go (fun _ k => XS.ior h hx rfl hd rfl k) w
theorem s_ixor {x y : Int32} (h : At T m c below) (hx : tb.exec = Jvm.exec) (hd : decode c.code pc = .ok (.ixor, 1)) (hp : pc + 1 = pc') (w : Win tb e below P (T.setTop (mkF m pc' ls (.int (x ^^^ y) :: st)))) : Win tb e below P (T.setTop (mkF m pc ls (.int y :: .int x :: st))) := by
  subst hp; exact Win.go (fun _ k => XS.ixor h hx rfl hd rfl k) w
theorem s_ladd {x y : Int64} (h : At T m c below) (hx : tb.exec = Jvm.exec) (hd : decode c.code pc = .ok (.ladd, 1)) (hp : pc + 1 = pc') (w : Win tb e below P (T.setTop (mkF m pc' ls (.long (x + y) :: st)))) : Win tb e below P (T.setTop (mkF m pc ls (.long y :: .long x :: st))) := by
  subst hp; exact Win.go (fun _ k => XS.ladd h hx rfl hd rfl k) w
theorem s_lsub {x y : Int64} (h : At T m c below) (hx : tb.exec = Jvm.exec) (hd : decode c.code pc = .ok (.lsub, 1)) (hp : pc + 1 = pc') (w : Win tb e below P (T.setTop (mkF m pc' ls (.long (x - y) :: st)))) : Win tb e below P (T.setTop (mkF m pc ls (.long y :: .long x :: st))) := by
  subst hp; exact Win.go (fun _ k => XS.lsub h hx rfl hd rfl k) w
theorem s_lmul {x y : Int64} (h : At T m c below) (hx : tb.exec = Jvm.exec) (hd : decode c.code pc = .ok (.lmul, 1)) (hp : pc + 1 = pc') (w : Win tb e below P (T.setTop (mkF m pc' ls (.long (x * y) :: st)))) : Win tb e below P (T.setTop (mkF m pc ls (.long y :: .long x :: st))) := by
  subst hp; exact Win.go (fun _ k => XS.lmul h hx rfl hd rfl k) w
theorem s_land {x y : Int64} (h : At T m c below) (hx : tb.exec = Jvm.exec) (hd : decode c.code pc = .ok (.land, 1)) (hp : pc + 1 = pc') (w : Win tb e below P (T.setTop (mkF m pc' ls (.long (x &&& y) :: st)))) : Win tb e below P (T.setTop (mkF m pc ls (.long y :: .long x :: st))) := by
  subst hp; exact Win.go (fun _ k => XS.land h hx rfl hd rfl k) w
theorem s_lor {x y : Int64} (h : At T m c below) (hx : tb.exec = Jvm.exec) (hd : decode c.code pc = .ok (.lor, 1)) (hp : pc + 1 = pc') (w : Win tb e below P (T.setTop (mkF m pc' ls (.long (x ||| y) :: st)))) : Win tb e below P (T.setTop (mkF m pc ls (.long y :: .long x :: st))) := by
  subst hp; exact Win.go (fun _ k => XS.lor h hx rfl hd rfl k) w
theorem s_lxor {x y : Int64} (h : At T m c below) (hx : tb.exec = Jvm.exec) (hd : decode c.code pc = .ok (.lxor, 1)) (hp : pc + 1 = pc') (w : Win tb e below P (T.setTop (mkF m pc' ls (.long (x ^^^ y) :: st)))) : Win tb e below P (T.setTop (mkF m pc ls (.long y :: .long x :: st))) := by
  subst hp; exact Win.go (fun _ k => XS.lxor h hx rfl hd rfl k) w
theorem s_iconst {i : Int} {z : Int32} (h : At T m c below) (hx : tb.exec = Jvm.exec) (hd : decode c.code pc = .ok (.iconst i, 1)) (hp : pc + 1 = pc') (hz : Int32.ofInt i = z) (w : Win tb e below P (T.setTop (mkF m pc' ls (.int z :: st)))) : Win tb e below P (T.setTop (mkF m pc ls st)) := by
  subst hp hz; exact Win.go (fun _ k => XS.iconst h hx rfl hd k) w
theorem s_bipush {i : Int} {z : Int32} (h : At T m c below) (hx : tb.exec = Jvm.exec) (hd : decode c.code pc = .ok (.bipush i, 2)) (hp : pc + 2 = pc') (hz : (Int8.ofInt i).toInt32 = z) (w : Win tb e below P (T.setTop (mkF m pc' ls (.int z :: st)))) : Win tb e below P (T.setTop (mkF m pc ls st)) := by
  subst hp hz; exact Win.go (fun _ k => XS.bipush h hx rfl hd k) w
theorem s_sipush {i : Int} {z : Int32} (h : At T m c below) (hx : tb.exec = Jvm.exec) (hd : decode c.code pc = .ok (.sipush i, 3)) (hp : pc + 3 = pc') (hz : (Int16.ofInt i).toInt32 = z) (w : Win tb e below P (T.setTop (mkF m pc' ls (.int z :: st)))) : Win tb e below P (T.setTop (mkF m pc ls st)) := by
  subst hp hz; exact Win.go (fun _ k => XS.sipush h hx rfl hd k) w
theorem s_lconst {i : Fin 2} {z : Int64} (h : At T m c below) (hx : tb.exec = Jvm.exec) (hd : decode c.code pc = .ok (.lconst i, 1)) (hp : pc + 1 = pc') (hz : Int64.ofNat i = z) (w : Win tb e below P (T.setTop (mkF m pc' ls (.long z :: st)))) : Win tb e below P (T.setTop (mkF m pc ls st)) := by
  subst hp hz; exact Win.go (fun _ k => XS.lconst h hx rfl hd k) w
theorem s_goto {o : Int} (h : At T m c below) (hx : tb.exec = Jvm.exec) (hd : decode c.code pc = .ok (.goto o, 3)) (ho : 0 ≤ (pc : Int) + o) (hp : ((pc : Int) + o).toNat = pc') (w : Win tb e below P (T.setTop (mkF m pc' ls st))) : Win tb e below P (T.setTop (mkF m pc ls st)) := by
  exact Win.go (fun _ k => XS.goto h hx rfl rfl hd ho hp k) w
theorem s_icmpYes {cd : ClassFile.Cond} {o : Int} {x y : Int32} (h : At T m c below) (hx : tb.exec = Jvm.exec) (hd : decode c.code pc = .ok (.if_icmp cd o, 3)) (hc : if_icmp.holds cd x y = true) (ho : 0 ≤ (pc : Int) + o) (hp : ((pc : Int) + o).toNat = pc') (w : Win tb e below P (T.setTop (mkF m pc' ls st))) : Win tb e below P (T.setTop (mkF m pc ls (.int y :: .int x :: st))) := by
  exact Win.go (fun _ k => XS.icmpYes h hx rfl rfl hd rfl hc ho hp k) w
theorem s_icmpNo {cd : ClassFile.Cond} {o : Int} {x y : Int32} (h : At T m c below) (hx : tb.exec = Jvm.exec) (hd : decode c.code pc = .ok (.if_icmp cd o, 3)) (hp : pc + 3 = pc') (hc : if_icmp.holds cd x y = false) (w : Win tb e below P (T.setTop (mkF m pc' ls st))) : Win tb e below P (T.setTop (mkF m pc ls (.int y :: .int x :: st))) := by
  subst hp; exact Win.go (fun _ k => XS.icmpNo h hx rfl hd rfl hc k) w
theorem s_ifYes {cd : ClassFile.Cond} {o : Int} {x : Int32} (h : At T m c below) (hx : tb.exec = Jvm.exec) (hd : decode c.code pc = .ok (.ifCond cd o, 3)) (hc : ifCond.holds cd x = true) (ho : 0 ≤ (pc : Int) + o) (hp : ((pc : Int) + o).toNat = pc') (w : Win tb e below P (T.setTop (mkF m pc' ls st))) : Win tb e below P (T.setTop (mkF m pc ls (.int x :: st))) := by
  exact Win.go (fun _ k => XS.ifYes h hx rfl rfl hd rfl hc ho hp k) w
theorem s_ifNo {cd : ClassFile.Cond} {o : Int} {x : Int32} (h : At T m c below) (hx : tb.exec = Jvm.exec) (hd : decode c.code pc = .ok (.ifCond cd o, 3)) (hp : pc + 3 = pc') (hc : ifCond.holds cd x = false) (w : Win tb e below P (T.setTop (mkF m pc' ls st))) : Win tb e below P (T.setTop (mkF m pc ls (.int x :: st))) := by
  subst hp; exact Win.go (fun _ k => XS.ifNo h hx rfl hd rfl hc k) w
theorem s_lcmp {x y : Int64} (h : At T m c below) (hx : tb.exec = Jvm.exec) (hd : decode c.code pc = .ok (.lcmp, 1)) (hp : pc + 1 = pc') (w : Win tb e below P (T.setTop (mkF m pc' ls (.int (lcmpW x y) :: st)))) : Win tb e below P (T.setTop (mkF m pc ls (.long y :: .long x :: st))) := by
  subst hp; exact Win.go (fun _ k => XS.lcmp h hx rfl hd rfl k) w
theorem s_istore {k : Nat} {x : Int32} {l' : Array Slot} (h : At T m c below) (hx : tb.exec = Jvm.exec) (hd : decode c.code pc = .ok (.istore k, 2)) (hp : pc + 2 = pc') (hl : storeLocals ls k (.int x) = some l') (w : Win tb e below P (T.setTop (mkF m pc' l' st))) : Win tb e below P (T.setTop (mkF m pc ls (.int x :: st))) := by
  subst hp; exact Win.go (fun _ k => XS.istore h hx rfl hd rfl hl k) w
theorem s_istoreN {k : Fin 4} {x : Int32} {l' : Array Slot} (h : At T m c below) (hx : tb.exec = Jvm.exec) (hd : decode c.code pc = .ok (.istore_n k, 1)) (hp : pc + 1 = pc') (hl : storeLocals ls k.val (.int x) = some l') (w : Win tb e below P (T.setTop (mkF m pc' l' st))) : Win tb e below P (T.setTop (mkF m pc ls (.int x :: st))) := by
  subst hp; exact Win.go (fun _ k => XS.istoreN h hx rfl hd rfl hl k) w
theorem s_lstore {k : Nat} {x : Int64} {l' : Array Slot} (h : At T m c below) (hx : tb.exec = Jvm.exec) (hd : decode c.code pc = .ok (.lstore k, 2)) (hp : pc + 2 = pc') (hl : storeLocals ls k (.long x) = some l') (w : Win tb e below P (T.setTop (mkF m pc' l' st))) : Win tb e below P (T.setTop (mkF m pc ls (.long x :: st))) := by
  subst hp; exact Win.go (fun _ k => XS.lstore h hx rfl hd rfl hl k) w
theorem s_lstoreN {k : Fin 4} {x : Int64} {l' : Array Slot} (h : At T m c below) (hx : tb.exec = Jvm.exec) (hd : decode c.code pc = .ok (.lstore_n k, 1)) (hp : pc + 1 = pc') (hl : storeLocals ls k.val (.long x) = some l') (w : Win tb e below P (T.setTop (mkF m pc' l' st))) : Win tb e below P (T.setTop (mkF m pc ls (.long x :: st))) := by
  subst hp; exact Win.go (fun _ k => XS.lstoreN h hx rfl hd rfl hl k) w
theorem s_astore {k : Nat} {x : Value} {l' : Array Slot} (h : At T m c below) (hx : tb.exec = Jvm.exec) (hd : decode c.code pc = .ok (.astore k, 2)) (hp : pc + 2 = pc') (hv : x.isRef = true) (hl : storeLocals ls k x = some l') (w : Win tb e below P (T.setTop (mkF m pc' l' st))) : Win tb e below P (T.setTop (mkF m pc ls (x :: st))) := by
  subst hp; exact Win.go (fun _ k => XS.astore h hx rfl hd rfl hv hl k) w
theorem s_astoreN {k : Fin 4} {x : Value} {l' : Array Slot} (h : At T m c below) (hx : tb.exec = Jvm.exec) (hd : decode c.code pc = .ok (.astore_n k, 1)) (hp : pc + 1 = pc') (hv : x.isRef = true) (hl : storeLocals ls k.val x = some l') (w : Win tb e below P (T.setTop (mkF m pc' l' st))) : Win tb e below P (T.setTop (mkF m pc ls (x :: st))) := by
  subst hp; exact Win.go (fun _ k => XS.astoreN h hx rfl hd rfl hv hl k) w
theorem s_dup {x : Value} (h : At T m c below) (hx : tb.exec = Jvm.exec) (hd : decode c.code pc = .ok (.dup, 1)) (hp : pc + 1 = pc') (hc : x.category = 1) (w : Win tb e below P (T.setTop (mkF m pc' ls (x :: x :: st)))) : Win tb e below P (T.setTop (mkF m pc ls (x :: st))) := by
  subst hp; exact Win.go (fun _ k => XS.dup h hx rfl hd rfl hc k) w
end Steps
/-- an array of ints by its places: place j holds f j -/
def AF (Z : State) (h : Heap) (a : Addr) (ty : FieldType) (n : Nat) (f : Int → Int32) : Prop := ∃ cl : Cell, Arr Z h a cl ty ∧ cl.slots.size = n ∧ ∀ j : Int32, 0 ≤ j.toInt → j.toInt < n → cl.slots[j.toNatClampNeg]? = some (.int (f j.toInt))
section AFs
variable {Z : State} {h h' : Heap} {a b : Addr} {ty : FieldType} {n : Nat} {f : Int → Int32} {ws : List Addr} {sl : Nat} {v : Value}
theorem AF.lt (F : AF Z h a ty n f) : a < h.size := by obtain ⟨c, A, -⟩ := F; exact A.lt
theorem AF.ext (F : AF Z h a ty n f) (E : Ext h h') : AF Z h' a ty n f := by obtain ⟨c, A, r⟩ := F; exact ⟨c, A.ext E, r⟩
theorem AF.other (F : AF Z h b ty n f) (W : Wr h h' a sl v) (q : b ≠ a) : AF Z h' b ty n f := by obtain ⟨c, A, r⟩ := F; exact ⟨c, A.other W q, r⟩
theorem AF.keep (F : AF Z h a ty n f) (K : Keep h h' ws) (q : a ∉ ws) : AF Z h' a ty n f := by obtain ⟨c, A, r⟩ := F; exact ⟨c, ⟨K.2.1 a c A.1 q, A.2⟩, r⟩
theorem AF.inb {c : Cell} {j : Int32} (S : c.slots.size = n) (q : 0 ≤ j.toInt ∧ j.toInt < n) : ¬ (j < 0 ∨ c.slots.size ≤ j.toNatClampNeg) := by
  rw [S, Int32.lt_iff_toInt_lt]; have e0 : (0 : Int32).toInt = 0 := rfl
  simp only [Int32.toNatClampNeg]; omega
def updF (f : Int → Int32) (j : Int) (v : Int32) : Int → Int32 := fun i => if i = j then v else f i
theorem updF_hit (f : Int → Int32) (j : Int) (v : Int32) : updF f j v j = v := if_pos rfl
theorem updF_miss {f : Int → Int32} {i j : Int} {v : Int32} (q : i ≠ j) : updF f j v i = f i := if_neg q
theorem AF.set {cl : Cell} {j v : Int32} (A : Arr Z h a cl ty) (S : cl.slots.size = n) (G : ∀ j : Int32, 0 ≤ j.toInt → j.toInt < n → cl.slots[j.toNatClampNeg]? = some (.int (f j.toInt))) (W : Wr h h' a j.toNatClampNeg (.int v)) (q : 0 ≤ j.toInt ∧ j.toInt < n) : AF Z h' a ty n (updF f j.toInt v) := by
  have e0 : (0 : Int32).toInt = 0 := rfl
  refine ⟨_, A.same W, by rw [sz_set]; exact S, fun k h0 h1 => ?_⟩
  by_cases e : k = j
  · subst e; rw [get_hit (AF.inb S q) rfl, updF_hit]
  · rw [get_miss (by rw [Int32.lt_iff_toInt_lt]; omega) (by rw [Int32.lt_iff_toInt_lt]; omega) e, updF_miss (fun z => e (Int32.toInt_inj.mp z))]; exact G k h0 h1
theorem AF.zero {k : ClassId} {z : Int32} (F : Arv Z h a k ty z [] (.int 0)) (q : z.toNatClampNeg = n) : AF Z h a ty n (fun _ => 0) := by
  obtain ⟨c, A, -, S, -, H, -⟩ := F
  refine ⟨c, A, S.trans q, fun j h0 h1 => ?_⟩
  have e : j.toNatClampNeg = j.toInt.toNat := rfl
  exact H _ (by rw [S, q, e]; omega)
theorem AF.ex {k : ClassId} {z : Int32} {vs : List Value} {dv : Value} (F : Arv Z h a k .byte z vs dv) (q : z.toNatClampNeg = n) : ∃ f, AF Z h a .byte n f := by
  obtain ⟨c, A, -, S, -, H, G⟩ := F
  refine ⟨fun i => match c.slots[i.toNat]? with | some (.int x) => x | _ => 0, c, A, S.trans q, fun j h0 h1 => ?_⟩
  have e : j.toNatClampNeg = j.toInt.toNat := rfl
  have hj : j.toInt.toNat < c.slots.size := by rw [S, q]; omega
  have e1 := H _ hj
  have e2 := G _ hj
  show c.slots[j.toInt.toNat]? = some (.int (match c.slots[j.toInt.toNat]? with | some (.int x) => x | _ => 0))
  cases hv : vs.getD j.toInt.toNat dv <;> rw [hv] at e1 e2 <;> first | (rw [e1]; done) | (exact absurd e2 (by simp [fits]))
/-- a byte array of length z -/
def BA (Z : State) (h : Heap) (a : Addr) (z : Int32) : Prop := ∃ (k : ClassId) (vs : List Value), Arv Z h a k .byte z vs (.int 0)
variable {z : Int32}
theorem BA.lt (F : BA Z h a z) : a < h.size := by obtain ⟨_, _, A⟩ := F; exact A.lt
theorem BA.ext (F : BA Z h a z) (E : Ext h h') : BA Z h' a z := by obtain ⟨k, vs, A⟩ := F; exact ⟨k, vs, A.ext E⟩
theorem BA.other (F : BA Z h b z) (W : Wr h h' a sl v) (q : b ≠ a) : BA Z h' b z := by obtain ⟨k, vs, A⟩ := F; exact ⟨k, vs, A.other W q⟩
theorem BA.keep (F : BA Z h a z) (K : Keep h h' ws) (q : a ∉ ws) : BA Z h' a z := by obtain ⟨k, vs, A⟩ := F; exact ⟨k, vs, A.keep K q⟩
theorem cpBA {p : Program} {l : Launch} {e : Env} {R : Room} {s : State} {m : MethodId} {args : Array Value} {below : List Frame} {meth : Method} {c : Code} {T : State} {locs : List Loc} {cells slots : Nat}
    (X : Stand p l e R s m args below meth c T locs cells slots) (hx : p.tables.exec = Jvm.exec) (hZ : Z.Warmed39 s.vm) {a0 : Array Value} {own : String} {index : Nat} (hown : s.vm.findClass own = some m.cls)
    (w1 : (Cond.methodLink own index Jvm.Stand.acN).before a0 Z = true) (w2 : (Cond.native Jvm.Stand.acN).before a0 Z = true) (w3 : (Cond.static Jvm.Stand.acN).before a0 Z = true) (w4 : (Cond.initialized "java/lang/System").before a0 Z = true) (eT : T.heap = h)
    {z' sp dp nn : Int32} (A : BA Z h a z) (B : BA Z h b z') (h1 : 0 ≤ sp.toInt) (h2 : 0 ≤ dp.toInt) (h3 : 0 ≤ nn.toInt) (h4 : sp.toInt + nn.toInt ≤ z.toInt) (h5 : dp.toInt + nn.toInt ≤ z'.toInt) {n0 : Nat} (N : Fr n0 locs) (ge : n0 ≤ b)
    {g : JFrame} (hg : g.method = m) (hsize : g.locals.size = c.maxLocals) {rest : List Value} (hs : g.stack = .int nn :: .int dp :: .ref b :: .int sp :: .ref a :: rest) (hd : decode c.code g.pc = .ok (.invokestatic index, 3))
    (hf : 1 ≤ R.frames) {W : Nat} (hW : 2 * g.monitorRoom + (rest.map fun v => v.category).sum ≤ W) (hlo : W + (nativeFrameWords "java/lang/System" "arraycopy" 5 + 11) ≤ R.locals) :
    ∃ T' h' L, Stand p l e R s m args below meth c T' L cells slots ∧ T'.heap = h' ∧ Fr n0 L ∧ Keep h h' [b] ∧ BA Z h' b z' ∧
      ∀ target, Steps p.tables e below (T'.setTop { g with pc := g.pc + 3, stack := rest }) target → Steps p.tables e below (T.setTop g) target := by
  have e0 : (0 : Int32).toInt = 0 := rfl
  obtain ⟨k, vs, A⟩ := A
  obtain ⟨k', vd, B⟩ := B
  have B' := B.pad (pad_rep vd (.int 0) z'.toNatClampNeg)
  obtain ⟨T', h', L, X', e', N', K, B2, st⟩ := cpA X hx hZ hown w1 w2 w3 w4 eT A B' (Or.inl ⟨rfl, rfl⟩) (by rw [Int32.lt_iff_toInt_lt]; omega) (by rw [Int32.lt_iff_toInt_lt]; omega) (by rw [Int32.lt_iff_toInt_lt]; omega) (by simp only [Int32.toNatClampNeg]; omega) (by simp only [Int32.toNatClampNeg]; omega) rfl (by simp only [List.length_append, List.length_replicate, Int32.toNatClampNeg]; omega) N ge hg hsize hs hd hf hW hlo
  exact ⟨T', h', L, X', e', N', K, ⟨k', _, B2⟩, st⟩
end AFs
theorem own_selPriv {s : State} {args : Array Value} {y y' : MethodName} (hn : y.cls = y'.cls) (w : (Cond.selects y'.cls y' y').before args s = true) (hpriv : s.PrivateAt y) (hinst : (Cond.instanceMethod y).before args s = true) (hy : y.cls ≠ "java/lang/invoke/MethodHandle" ∧ y.cls ≠ "java/lang/invoke/VarHandle") : (Cond.selects y.cls y y).before args s = true := by
  obtain ⟨c, r, m, h1, -, h3, -, k, h5, h6⟩ := Cond.selects_spec w
  have h7 := findClass_of_methodNamed h3
  cases h1.symm.trans h7
  exact selects_self_of_private (by rw [hn]; exact h7) h5 h6 hpriv hinst hy
theorem own_lremEq (x y : Int64) : x - (x / y) * y = x % y := by
  refine Int64.toInt_inj.mp ?_
  have h1 := rng64 (x % y)
  have e : x.toInt - x.toInt.tdiv y.toInt * y.toInt = (x % y).toInt := by rw [Int64.toInt_mod, Int.tmod_def, Int.mul_comm]
  rw [Int64.toInt_sub, Int64.toInt_mul, Int64.toInt_div, Int.bmod_mul_bmod, Int.sub_bmod_bmod, e]
  exact Int.bmod_eq_of_le_mul_two (by omega) (by omega)
theorem lremM {p : Program} {l : Launch} {e : Env} {R : Room} {s : State} {m : MethodId} {args : Array Value} {below : List Frame} {meth : Method} {c : Code} {T : State} {locs : List Loc} {cells slots : Nat} {g : JFrame} {target : State} (X : Stand p l e R s m args below meth c T locs cells slots) (hx : p.tables.exec = Jvm.exec) (hg : g.method = m) {x y : Int64} {rest : List Value} (hd : decode c.code g.pc = .ok (.lrem, 1)) (hs : g.stack = .long y :: .long x :: rest) (hy : y ≠ 0)
    (hr : Steps p.tables e below (T.setTop { g with pc := g.pc + 1, stack := .long (x % y) :: rest }) target) : Steps p.tables e below (T.setTop g) target :=
  XS.lrem X.here hx hg hd hs hy (by rw [own_lremEq]; exact hr)
/-! comparisons by the numbers -/
theorem tltI {x y : Int32} (h : x.toInt < y.toInt) : if_icmp.holds .lt x y = true ∧ if_icmp.holds .ge x y = false ∧ if_icmp.holds .gt y x = true ∧ if_icmp.holds .le y x = false := tlt (Int32.lt_iff_toInt_lt.mpr h)
theorem fltI {x y : Int32} (h : ¬ x.toInt < y.toInt) : if_icmp.holds .lt x y = false ∧ if_icmp.holds .ge x y = true ∧ if_icmp.holds .gt y x = false ∧ if_icmp.holds .le y x = true := flt (fun q => h (Int32.lt_iff_toInt_lt.mp q))
theorem teqI {x y : Int32} (h : x.toInt = y.toInt) : if_icmp.holds .eq x y = true ∧ if_icmp.holds .ne x y = false := teq (Int32.toInt_inj.mp h)
theorem feqI {x y : Int32} (h : ¬ x.toInt = y.toInt) : if_icmp.holds .eq x y = false ∧ if_icmp.holds .ne x y = true := feq (fun q => h (congrArg _ q))
theorem tltZ {x y : Int32} (h : x.toInt < y.toInt) : (y = 0 → ifCond.holds .lt x = true ∧ ifCond.holds .ge x = false) ∧ (x = 0 → ifCond.holds .gt y = true ∧ ifCond.holds .le y = false) :=
  ⟨fun q => by subst q; exact ⟨(if0 _ _).trans (tltI h).1, (if0 _ _).trans (tltI h).2.1⟩, fun q => by subst q; exact ⟨(if0 _ _).trans (tltI h).2.2.1, (if0 _ _).trans (tltI h).2.2.2⟩⟩
theorem tltL {x y : Int64} (h : x.toInt < y.toInt) : ifCond.holds .lt (lcmpW x y) = true ∧ ifCond.holds .ge (lcmpW x y) = false ∧ ifCond.holds .gt (lcmpW y x) = true ∧ ifCond.holds .le (lcmpW y x) = false :=
  have h' := Int64.lt_iff_toInt_lt.mpr h
  ⟨(if0 _ _).trans (tlt ((lw_lt x y).mpr h')).1, (if0 _ _).trans (tlt ((lw_lt x y).mpr h')).2.1, (if0 _ _).trans (tlt ((lw_gt y x).mpr h')).2.2.1, (if0 _ _).trans (tlt ((lw_gt y x).mpr h')).2.2.2⟩
theorem fltL {x y : Int64} (h : ¬ x.toInt < y.toInt) : ifCond.holds .lt (lcmpW x y) = false ∧ ifCond.holds .ge (lcmpW x y) = true ∧ ifCond.holds .gt (lcmpW y x) = false ∧ ifCond.holds .le (lcmpW y x) = true :=
  have h1 : ¬ lcmpW x y < 0 := fun q => h (Int64.lt_iff_toInt_lt.mp ((lw_lt x y).mp q))
  have h2 : ¬ 0 < lcmpW y x := fun q => h (Int64.lt_iff_toInt_lt.mp ((lw_gt y x).mp q))
  ⟨(if0 _ _).trans (flt h1).1, (if0 _ _).trans (flt h1).2.1, (if0 _ _).trans (flt h2).2.2.1, (if0 _ _).trans (flt h2).2.2.2⟩
theorem teqL {x y : Int64} (h : x.toInt = y.toInt) : ifCond.holds .eq (lcmpW x y) = true ∧ ifCond.holds .ne (lcmpW x y) = false :=
  have h' := (lw_eq x y).mpr (Int64.toInt_inj.mp h)
  ⟨(if0 _ _).trans (teq h').1, (if0 _ _).trans (teq h').2⟩
theorem feqL {x y : Int64} (h : ¬ x.toInt = y.toInt) : ifCond.holds .eq (lcmpW x y) = false ∧ ifCond.holds .ne (lcmpW x y) = true :=
  have h' : ¬ lcmpW x y = 0 := fun q => h (congrArg _ ((lw_eq x y).mp q))
  ⟨(if0 _ _).trans (feq h').1, (if0 _ _).trans (feq h').2⟩
end Jvm.OwnWalk
namespace Jvm.Pilot.@@N@@
open Jvm Jvm.ClassFile Sem Op Lib Jvm.Free Jvm.Stand Jvm.LawKit Jvm.RoadKit Bundle Jvm.OwnWalk Jvm.Pilot.@@N@@.Jvm.D
theorem own_fin {v : Int32} {N : Nat} (h0 : 0 ≤ v.toInt) (h1 : v.toInt < N) : ∃ k : Fin N, v = Int32.ofNat k.val := by
  refine ⟨⟨v.toInt.toNat, by omega⟩, Int32.toInt_inj.mp ?_⟩
  have := v.toInt_lt
  rw [Int32.toInt_ofNat_of_lt (by simp only; omega)]; simp only; omega
theorem own_b {v : Int32} (h0 : 0 ≤ v.toInt) (h1 : v.toInt ≤ 127) : ((nar .byte (((128 : Int32) ||| v).toInt8.toInt32)) &&& (255 : Int32)).toInt = 128 + v.toInt := by
  obtain ⟨k, rfl⟩ := own_fin (N := 128) h0 (by omega)
  revert k; decide +kernel
theorem d2_0 : decode jdk_30_method_1_code 0 = .ok (.aload_n 0, 1) := by decide +kernel
theorem d2_1 : decode jdk_30_method_1_code 1 = .ok (.invokespecial 1, 3) := by decide +kernel
theorem d2_4 : decode jdk_30_method_1_code 4 = .ok (.return_, 1) := by decide +kernel
theorem pn_2 : plainName "java/lang/Record" = true := by first | (simp [plainName, overriddenIn]; done) | decide +kernel
theorem ef_2 (m : MethodId) (a : Addr) : entryFrame m #[(.ref a)] 1 = mkF m 0 #[.val (.ref a)] [] := by first | (simp [entryFrame, mkF, argsToLocals, Value.category]; done) | rfl
def Q2 (Z : State) (a : Addr) (h0 : Heap) (n0 : Nat) (v : Option Value) (h : Heap) (L : List Loc) : Prop := Fr n0 L ∧ h = h0 ∧ v = none
set_option maxRecDepth 65536 in
set_option maxHeartbeats 40000000 in
theorem rm2 (l : Launch) (Z : State) (a0 : Array Value) (hw : ∀ d ∈ tables_1, d.before a0 Z = true) (ws : List Jvm.Cond) (a : Addr) (h0 : Heap) (n0 : Nat) (Zs : n0 ≤ h0.size) :
    MetFree l (⟨"java/lang/Record", "<init>", "()V"⟩ : MethodName) (head1 (Jvm.Cond.code (⟨"java/lang/Record", "<init>", "()V"⟩ : MethodName) jdk_30_method_1_code 1 none :: ws) ({ frames := 1, cells := 0, slots := 0, locals := 12 } : Room)) (fun as' U => as' = #[(.ref a)] ∧ Z.Warmed39 U.vm ∧ U.heap = h0) (fun _ _ _ _ _ => True) (fun _ U o U' => ∃ v L, o = .returned v ∧ Q2 Z a h0 n0 v U'.heap L ∧ FrameEnd U o U' L ({ frames := 1, cells := 0, slots := 0, locals := 12 } : Room).cells ({ frames := 1, cells := 0, slots := 0, locals := 12 } : Room).slots) := by
  refine MetFree.of_bodySF (plainFor_of_name pn_2) hisR ?_
  intro p e s m args below meth c s₁ Bd hml0 hP hK
  obtain ⟨rfl, hZ, hh⟩ := hP
  have hx := Bd.exec
  have hby := Bd.bytes
  have hml : c.maxLocals = 1 := hml0
  have hown : s.vm.findClass "java/lang/Record" = some m.cls := findClass_of_methodNamed Bd.named
  have hnm := (name_of_methodNamed Bd.named Bd.method).1
  have hlk : meth.locks = false := Bd.notSynchronized
  have X0 : Stand p l e ({ frames := 1, cells := 0, slots := 0, locals := 12 } : Room) s m #[(.ref a)] below meth c s₁ [] 0 0 := Stand.of_body Bd
  have e0 : s₁.heap = h0 := by rw [← hh, Bd.state]; rfl
  have Nf := Fr.nil n0
  refine (?_ : Win p.tables e below (PostQ s (Q2 Z a h0 n0) ({ frames := 1, cells := 0, slots := 0, locals := 12 } : Room).cells ({ frames := 1, cells := 0, slots := 0, locals := 12 } : Room).slots) (s₁.setTop (entryFrame m #[(.ref a)] 1)))
  rw [ef_2]
  show Win p.tables e below _ (s₁.setTop (mkF m 0 #[.val (.ref a)] []))
  refine s_aloadN (pc' := 1) X0.here hx (hb hby d2_0) rfl rfl rfl ?_
  obtain ⟨T_1, X_1, e_1, st_1⟩ := initO X0 hx hZ hown (hw _ (List.mem_of_getElem? (i := 11) rfl)) (hw _ (List.mem_of_getElem? (i := 12) rfl)) (hw _ (List.mem_of_getElem? (i := 13) rfl)) e0 (g := (mkF m 1 #[.val (.ref a)] [(.ref a)])) rfl (by rw [hml]; rfl) rfl (hb hby d2_1) (by decide) (W := 0) (by show 2 * 0 + _ ≤ _; exact Nat.le_of_eq rfl) (by decide)
  refine Win.go st_1 ?_
  show Win p.tables e below _ (T_1.setTop (mkF m 4 #[.val (.ref a)] []))
  refine winV X_1 hx hlk e_1 Bd.returns (hb hby d2_4) (by decide) (by decide) ?_
  exact ⟨Nf, rfl, rfl⟩
theorem d1_0 : decode prog_45_method_1_code 0 = .ok (.aload_n 0, 1) := by decide +kernel
theorem d1_1 : decode prog_45_method_1_code 1 = .ok (.invokespecial 1, 3) := by decide +kernel
theorem d1_4 : decode prog_45_method_1_code 4 = .ok (.iload_n 1, 1) := by decide +kernel
theorem d1_5 : decode prog_45_method_1_code 5 = .ok (.ifCond .lt 19, 3) := by decide +kernel
theorem d1_8 : decode prog_45_method_1_code 8 = .ok (.iload_n 1, 1) := by decide +kernel
theorem d1_9 : decode prog_45_method_1_code 9 = .ok (.bipush 15, 2) := by decide +kernel
theorem d1_11 : decode prog_45_method_1_code 11 = .ok (.if_icmp .gt 13, 3) := by decide +kernel
theorem d1_14 : decode prog_45_method_1_code 14 = .ok (.iload_n 2, 1) := by decide +kernel
theorem d1_15 : decode prog_45_method_1_code 15 = .ok (.ifCond .lt 9, 3) := by decide +kernel
theorem d1_18 : decode prog_45_method_1_code 18 = .ok (.iload_n 2, 1) := by decide +kernel
theorem d1_19 : decode prog_45_method_1_code 19 = .ok (.bipush 127, 2) := by decide +kernel
theorem d1_21 : decode prog_45_method_1_code 21 = .ok (.if_icmp .le 18, 3) := by decide +kernel
theorem d1_39 : decode prog_45_method_1_code 39 = .ok (.aload_n 0, 1) := by decide +kernel
theorem d1_40 : decode prog_45_method_1_code 40 = .ok (.iload_n 1, 1) := by decide +kernel
theorem d1_41 : decode prog_45_method_1_code 41 = .ok (.putfield 16, 3) := by decide +kernel
theorem d1_44 : decode prog_45_method_1_code 44 = .ok (.aload_n 0, 1) := by decide +kernel
theorem d1_45 : decode prog_45_method_1_code 45 = .ok (.iload_n 2, 1) := by decide +kernel
theorem d1_46 : decode prog_45_method_1_code 46 = .ok (.putfield 22, 3) := by decide +kernel
theorem d1_49 : decode prog_45_method_1_code 49 = .ok (.return_, 1) := by decide +kernel
theorem pn_1 : plainName "com/example/pointcode/pointcode/isup/Cause" = true := by first | (simp [plainName, overriddenIn]; done) | decide +kernel
theorem pd_0 : parseMethodDescriptor "()V" = some ⟨[], none⟩ := by decide +kernel
theorem ef_1 (m : MethodId) (a : Addr) (p1 : Int32) (p2 : Int32) : entryFrame m #[(.ref a), (.int p1), (.int p2)] 3 = mkF m 0 #[.val (.ref a), .val (.int p1), .val (.int p2)] [] := by first | (simp [entryFrame, mkF, argsToLocals, Value.category]; done) | rfl
def Q1 (Z : State) (a : Addr) (p1 : Int32) (p2 : Int32) (h0 : Heap) (n0 : Nat) (v : Option Value) (h : Heap) (L : List Loc) : Prop := Fr n0 L ∧ Keep h0 h [a] ∧ Fld Z h a "com/example/pointcode/pointcode/isup/Cause" "location" "I" (.int p1) ∧ Fld Z h a "com/example/pointcode/pointcode/isup/Cause" "value" "I" (.int p2) ∧ v = none
set_option maxRecDepth 65536 in
set_option maxHeartbeats 40000000 in
theorem rm1 (l : Launch) (Z : State) (a0 : Array Value) (hw : ∀ d ∈ tables_1, d.before a0 Z = true) (ws : List Jvm.Cond) (a : Addr) (p1 : Int32) (p2 : Int32) (h0 : Heap) (n0 : Nat) (Zs : n0 ≤ h0.size) (E_a : Exa Z h0 a "com/example/pointcode/pointcode/isup/Cause") (F_location_a : Fld Z h0 a "com/example/pointcode/pointcode/isup/Cause" "location" "I" (.int (0 : Int32))) (F_value_a : Fld Z h0 a "com/example/pointcode/pointcode/isup/Cause" "value" "I" (.int (0 : Int32))) (g_a : n0 ≤ a) (hp : 0 ≤ p1.toInt ∧ p1.toInt ≤ 15 ∧ 0 ≤ p2.toInt ∧ p2.toInt ≤ 127) :
    MetFree l (⟨"com/example/pointcode/pointcode/isup/Cause", "<init>", "(II)V"⟩ : MethodName) (head1 (Jvm.Cond.code (⟨"com/example/pointcode/pointcode/isup/Cause", "<init>", "(II)V"⟩ : MethodName) prog_45_method_1_code 3 none :: ws) ({ frames := 2, cells := 0, slots := 0, locals := 24 } : Room)) (fun as' U => as' = #[(.ref a), (.int p1), (.int p2)] ∧ Z.Warmed39 U.vm ∧ U.heap = h0) (fun _ _ _ _ _ => True) (fun _ U o U' => ∃ v L, o = .returned v ∧ Q1 Z a p1 p2 h0 n0 v U'.heap L ∧ FrameEnd U o U' L ({ frames := 2, cells := 0, slots := 0, locals := 24 } : Room).cells ({ frames := 2, cells := 0, slots := 0, locals := 24 } : Room).slots) := by
  refine MetFree.of_bodySF (plainFor_of_name pn_1) hisR ?_
  intro p e s m args below meth c s₁ Bd hml0 hP hK
  obtain ⟨rfl, hZ, hh⟩ := hP
  have hx := Bd.exec
  have hby := Bd.bytes
  have hml : c.maxLocals = 3 := hml0
  have hown : s.vm.findClass "com/example/pointcode/pointcode/isup/Cause" = some m.cls := findClass_of_methodNamed Bd.named
  have hnm := (name_of_methodNamed Bd.named Bd.method).1
  have hlk : meth.locks = false := Bd.notSynchronized
  have X0 : Stand p l e ({ frames := 2, cells := 0, slots := 0, locals := 24 } : Room) s m #[(.ref a), (.int p1), (.int p2)] below meth c s₁ [] 0 0 := Stand.of_body Bd
  have e0 : s₁.heap = h0 := by rw [← hh, Bd.state]; rfl
  have Nf := Fr.nil n0
  refine (?_ : Win p.tables e below (PostQ s (Q1 Z a p1 p2 h0 n0) ({ frames := 2, cells := 0, slots := 0, locals := 24 } : Room).cells ({ frames := 2, cells := 0, slots := 0, locals := 24 } : Room).slots) (s₁.setTop (entryFrame m #[(.ref a), (.int p1), (.int p2)] 3)))
  rw [ef_1]
  have Kp : Keep h0 h0 [a] := Keep.refl h0 _
  have lt_a : a < h0.size := E_a.lt
  show Win p.tables e below _ (s₁.setTop (mkF m 0 #[.val (.ref a), .val (.int p1), .val (.int p2)] []))
  refine s_aloadN (pc' := 1) X0.here hx (hb hby d1_0) rfl rfl rfl ?_
  obtain ⟨_, _, ⟨T_2, L_2, k_2, n_2⟩, -, X_2, ⟨Lc_2, hQ_2, l_2, y_2, z_2⟩, st_2⟩ := X0.specialBack hx (y := (⟨"java/lang/Record", "<init>", "()V"⟩ : MethodName)) rfl hown (mvT hZ (hw _ (List.mem_of_getElem? (i := 6) rfl))) (mvT hZ (hw _ (List.mem_of_getElem? (i := 7) rfl))) (mvT hZ (hw _ (List.mem_of_getElem? (i := 10) rfl))) (by decide) (backOf (W := 0) (rm2 l Z a0 hw [] a h0 n0 Zs ) hZ (hw _ (List.mem_of_getElem? (i := 10) rfl)) (hw _ (List.mem_of_getElem? (i := 9) rfl)) (by decide) (by decide)) (g := (mkF m 1 #[.val (.ref a), .val (.int p1), .val (.int p2)] [(.ref a)])) rfl (by rw [hml]; rfl) (Steps.refl _) (a := a) (argsL := []) (rest := []) (lenOf pd_0 rfl) rfl (by show 2 * 0 + _ ≤ _; exact Nat.le_of_eq rfl) (hb hby d1_1) (fun _ _ => ⟨rfl, e0, (by decide : 0 + 0 ≤ _), (by decide : 0 + 0 ≤ _)⟩)
  dsimp only [Pt.U, Pt.locs, Pt.cells, Pt.slots] at X_2 l_2 y_2 z_2 st_2 hQ_2
  subst l_2 y_2 z_2
  obtain ⟨Nq_2, e_2, rfl⟩ := hQ_2
  replace Nf := Fr.app Nf Nq_2
  refine Win.come st_2 ?_
  show Win p.tables e below _ (T_2.setTop (mkF m 4 #[.val (.ref a), .val (.int p1), .val (.int p2)] []))
  refine s_iloadN (pc' := 5) X_2.here hx (hb hby d1_4) rfl rfl ?_
  by_cases hc5 : (p1).toInt < (0 : Int)
  · skip
    exfalso
    omega
  · skip
    refine s_ifNo (pc' := 8) X_2.here hx (hb hby d1_5) rfl ((if0 _ _).trans (fltI (x := p1) (y := (0 : Int32)) hc5).1) ?_
    refine s_iloadN (pc' := 9) X_2.here hx (hb hby d1_8) rfl rfl ?_
    refine s_bipush (pc' := 11) (z := (15 : Int32)) X_2.here hx (hb hby d1_9) rfl rfl ?_
    by_cases hc11 : (15 : Int) < (p1).toInt
    · skip
      exfalso
      omega
    · skip
      refine s_icmpNo (pc' := 14) X_2.here hx (hb hby d1_11) rfl (fltI (x := (15 : Int32)) (y := p1) hc11).2.2.1 ?_
      refine s_iloadN (pc' := 15) X_2.here hx (hb hby d1_14) rfl rfl ?_
      by_cases hc15 : (p2).toInt < (0 : Int)
      · skip
        exfalso
        omega
      · skip
        refine s_ifNo (pc' := 18) X_2.here hx (hb hby d1_15) rfl ((if0 _ _).trans (fltI (x := p2) (y := (0 : Int32)) hc15).1) ?_
        refine s_iloadN (pc' := 19) X_2.here hx (hb hby d1_18) rfl rfl ?_
        refine s_bipush (pc' := 21) (z := (127 : Int32)) X_2.here hx (hb hby d1_19) rfl rfl ?_
        by_cases hc21 : (127 : Int) < (p2).toInt
        · skip
          exfalso
          omega
        · skip
          refine s_icmpYes (pc' := 39) X_2.here hx (hb hby d1_21) (fltI (x := (127 : Int32)) (y := p2) hc21).2.2.2 (by decide) (by decide) ?_
          refine s_aloadN (pc' := 40) X_2.here hx (hb hby d1_39) rfl rfl rfl ?_
          refine s_iloadN (pc' := 41) X_2.here hx (hb hby d1_40) rfl rfl ?_
          obtain ⟨T_3, h_3, X_3, e_3, W_3, st_3⟩ := putF X_2 hx hZ hown (host := "") (Or.inl (hw _ (List.mem_of_getElem? (i := 14) rfl))) Via.refl e_2 F_location_a E_a (Or.inr ⟨(hw _ (List.mem_of_getElem? (i := 15) rfl)), rfl, hnm⟩) (hw _ (List.mem_of_getElem? (i := 1) rfl)) (ty := .int) (by decide) rfl rfl (g := (mkF m 41 #[.val (.ref a), .val (.int p1), .val (.int p2)] [(.int p1), (.ref a)])) rfl rfl (hb hby d1_41)
          replace E_a := E_a.wr W_3
          replace F_value_a := F_value_a.other W_3 (Or.inr (slot_ne (Or.inr (hw _ (List.mem_of_getElem? (i := 17) rfl))) (Or.inr (hw _ (List.mem_of_getElem? (i := 15) rfl))) (by decide) (t := .int) (t' := .int) (by decide) (by decide)))
          replace lt_a := Nat.lt_of_lt_of_le lt_a (Keep.of_wr W_3).1
          replace Zs := Nat.le_trans Zs (Keep.of_wr W_3).1
          replace Kp := Kp.wr W_3 (Or.inl (by simp))
          replace F_location_a := F_location_a.same W_3
          replace Nf := Fr.snoc X_3 Nf g_a
          refine Win.go st_3 ?_
          show Win p.tables e below _ (T_3.setTop (mkF m 44 #[.val (.ref a), .val (.int p1), .val (.int p2)] []))
          refine s_aloadN (pc' := 45) X_3.here hx (hb hby d1_44) rfl rfl rfl ?_
          refine s_iloadN (pc' := 46) X_3.here hx (hb hby d1_45) rfl rfl ?_
          obtain ⟨T_4, h_4, X_4, e_4, W_4, st_4⟩ := putF X_3 hx hZ hown (host := "") (Or.inl (hw _ (List.mem_of_getElem? (i := 16) rfl))) Via.refl e_3 F_value_a E_a (Or.inr ⟨(hw _ (List.mem_of_getElem? (i := 17) rfl)), rfl, hnm⟩) (hw _ (List.mem_of_getElem? (i := 1) rfl)) (ty := .int) (by decide) rfl rfl (g := (mkF m 46 #[.val (.ref a), .val (.int p1), .val (.int p2)] [(.int p2), (.ref a)])) rfl rfl (hb hby d1_46)
          replace E_a := E_a.wr W_4
          replace F_location_a := F_location_a.other W_4 (Or.inr (slot_ne (Or.inr (hw _ (List.mem_of_getElem? (i := 15) rfl))) (Or.inr (hw _ (List.mem_of_getElem? (i := 17) rfl))) (by decide) (t := .int) (t' := .int) (by decide) (by decide)))
          replace lt_a := Nat.lt_of_lt_of_le lt_a (Keep.of_wr W_4).1
          replace Zs := Nat.le_trans Zs (Keep.of_wr W_4).1
          replace Kp := Kp.wr W_4 (Or.inl (by simp))
          replace F_value_a := F_value_a.same W_4
          replace Nf := Fr.snoc X_4 Nf g_a
          refine Win.go st_4 ?_
          show Win p.tables e below _ (T_4.setTop (mkF m 49 #[.val (.ref a), .val (.int p1), .val (.int p2)] []))
          refine winV X_4 hx hlk e_4 Bd.returns (hb hby d1_49) (by decide) (by decide) ?_
          exact ⟨Nf, Kp, F_location_a, F_value_a, rfl⟩
theorem d4_0 : decode prog_45_method_2_code 0 = .ok (.iconst 2, 1) := by decide +kernel
theorem d4_1 : decode prog_45_method_2_code 1 = .ok (.newarray .byte, 2) := by decide +kernel
theorem d4_3 : decode prog_45_method_2_code 3 = .ok (.dup, 1) := by decide +kernel
theorem d4_4 : decode prog_45_method_2_code 4 = .ok (.iconst 0, 1) := by decide +kernel
theorem d4_5 : decode prog_45_method_2_code 5 = .ok (.sipush 128, 3) := by decide +kernel
theorem d4_8 : decode prog_45_method_2_code 8 = .ok (.aload_n 0, 1) := by decide +kernel
theorem d4_9 : decode prog_45_method_2_code 9 = .ok (.getfield 16, 3) := by decide +kernel
theorem d4_12 : decode prog_45_method_2_code 12 = .ok (.ior, 1) := by decide +kernel
theorem d4_13 : decode prog_45_method_2_code 13 = .ok (.i2b, 1) := by decide +kernel
theorem d4_14 : decode prog_45_method_2_code 14 = .ok (.bastore, 1) := by decide +kernel
theorem d4_15 : decode prog_45_method_2_code 15 = .ok (.dup, 1) := by decide +kernel
theorem d4_16 : decode prog_45_method_2_code 16 = .ok (.iconst 1, 1) := by decide +kernel
theorem d4_17 : decode prog_45_method_2_code 17 = .ok (.sipush 128, 3) := by decide +kernel
theorem d4_20 : decode prog_45_method_2_code 20 = .ok (.aload_n 0, 1) := by decide +kernel
theorem d4_21 : decode prog_45_method_2_code 21 = .ok (.getfield 22, 3) := by decide +kernel
theorem d4_24 : decode prog_45_method_2_code 24 = .ok (.ior, 1) := by decide +kernel
theorem d4_25 : decode prog_45_method_2_code 25 = .ok (.i2b, 1) := by decide +kernel
theorem d4_26 : decode prog_45_method_2_code 26 = .ok (.bastore, 1) := by decide +kernel
theorem d4_27 : decode prog_45_method_2_code 27 = .ok (.areturn, 1) := by decide +kernel
theorem ef_4 (m : MethodId) (a : Addr) : entryFrame m #[(.ref a)] 1 = mkF m 0 #[.val (.ref a)] [] := by first | (simp [entryFrame, mkF, argsToLocals, Value.category]; done) | rfl
def Q4 (Z : State) (a : Addr) (u1 : Int32) (u2 : Int32) (h0 : Heap) (n0 : Nat) (v : Option Value) (h : Heap) (L : List Loc) : Prop := Fr n0 L ∧ Keep h0 h [] ∧ (∃ (b : Addr) (kk : ClassId), v = some (.ref b) ∧ n0 ≤ b ∧ h0.size ≤ b ∧ Arv Z h b kk .byte (2 : Int32) [(.int (nar .byte (((128 : Int32) ||| u1).toInt8.toInt32))), (.int (nar .byte (((128 : Int32) ||| u2).toInt8.toInt32)))] (.int (0 : Int32)))
set_option maxRecDepth 65536 in
set_option maxHeartbeats 40000000 in
theorem rm4 (l : Launch) (Z : State) (a0 : Array Value) (hw : ∀ d ∈ tables_1, d.before a0 Z = true) (ws : List Jvm.Cond) (a : Addr) (u1 : Int32) (u2 : Int32) (h0 : Heap) (n0 : Nat) (Zs : n0 ≤ h0.size) (F_location_a : Fld Z h0 a "com/example/pointcode/pointcode/isup/Cause" "location" "I" (.int u1)) (F_value_a : Fld Z h0 a "com/example/pointcode/pointcode/isup/Cause" "value" "I" (.int u2)) :
    MetFree l (⟨"com/example/pointcode/pointcode/isup/Cause", "encode", "()[B"⟩ : MethodName) (head1 (Jvm.Cond.code (⟨"com/example/pointcode/pointcode/isup/Cause", "encode", "()[B"⟩ : MethodName) prog_45_method_2_code 1 (some (.array .byte)) :: ws) ({ frames := 0, cells := 1, slots := 2, locals := 0 } : Room)) (fun as' U => as' = #[(.ref a)] ∧ Z.Warmed39 U.vm ∧ U.heap = h0) (fun _ _ _ _ _ => True) (fun _ U o U' => ∃ v L, o = .returned v ∧ Q4 Z a u1 u2 h0 n0 v U'.heap L ∧ FrameEnd U o U' L ({ frames := 0, cells := 1, slots := 2, locals := 0 } : Room).cells ({ frames := 0, cells := 1, slots := 2, locals := 0 } : Room).slots) := by
  refine MetFree.of_bodySF (plainFor_of_name pn_1) hisR ?_
  intro p e s m args below meth c s₁ Bd hml0 hP hK
  obtain ⟨rfl, hZ, hh⟩ := hP
  have hx := Bd.exec
  have hby := Bd.bytes
  have hml : c.maxLocals = 1 := hml0
  have hown : s.vm.findClass "com/example/pointcode/pointcode/isup/Cause" = some m.cls := findClass_of_methodNamed Bd.named
  have hnm := (name_of_methodNamed Bd.named Bd.method).1
  have hlk : meth.locks = false := Bd.notSynchronized
  have X0 : Stand p l e ({ frames := 0, cells := 1, slots := 2, locals := 0 } : Room) s m #[(.ref a)] below meth c s₁ [] 0 0 := Stand.of_body Bd
  have e0 : s₁.heap = h0 := by rw [← hh, Bd.state]; rfl
  have Nf := Fr.nil n0
  refine (?_ : Win p.tables e below (PostQ s (Q4 Z a u1 u2 h0 n0) ({ frames := 0, cells := 1, slots := 2, locals := 0 } : Room).cells ({ frames := 0, cells := 1, slots := 2, locals := 0 } : Room).slots) (s₁.setTop (entryFrame m #[(.ref a)] 1)))
  rw [ef_4]
  have Kp : Keep h0 h0 [] := Keep.refl h0 _
  have lt_a : a < h0.size := F_location_a.lt
  show Win p.tables e below _ (s₁.setTop (mkF m 0 #[.val (.ref a)] []))
  refine s_iconst (pc' := 1) (z := (2 : Int32)) X0.here hx (hb hby d4_0) rfl rfl ?_
  obtain ⟨T_5, h_5, k_5, X_5, e_5, Ex_5, A_5, EA_5, st_5⟩ := newPE X0 hx hZ (hw _ (List.mem_of_getElem? (i := 23) rfl)) e0 (g := (mkF m 1 #[.val (.ref a)] [(.int (2 : Int32))])) rfl (hb hby d4_1) rfl (by decide) (cap := 2) (by decide) (by decide) (by decide) (by decide) (ad := "[B") (by decide)
  obtain ⟨b_5, g_5⟩ : ∃ z, z = h0.size := ⟨_, rfl⟩
  have ne_a_b_5 : a ≠ b_5 := Nat.ne_of_lt (Nat.lt_of_lt_of_le lt_a (Nat.le_of_eq g_5.symm))
  have g_b_5 : n0 ≤ b_5 := Nat.le_trans Zs (Nat.le_of_eq g_5.symm)
  have sz_b_5 : h0.size ≤ b_5 := Nat.le_trans Kp.1 (Nat.le_of_eq g_5.symm)
  rw [← g_5] at A_5 EA_5 st_5
  replace F_location_a := F_location_a.ext Ex_5
  replace F_value_a := F_value_a.ext Ex_5
  replace lt_a := Nat.lt_of_lt_of_le lt_a Ex_5.1
  replace Zs := Nat.le_trans Zs Ex_5.1
  replace Kp := Kp.ext Ex_5
  have V_b_5 : Arv Z h_5 b_5 k_5 .byte (2 : Int32) [(.int (0 : Int32)), (.int (0 : Int32))] (.int (0 : Int32)) := (Arv.new A_5 (by decide)).pad (pad_rep [] (.int (0 : Int32)) 2)
  have lt_b_5 := V_b_5.lt
  have E_b_5 := EA_5
  refine Win.go st_5 ?_
  show Win p.tables e below _ (T_5.setTop (mkF m 3 #[.val (.ref a)] [(.ref b_5)]))
  refine s_dup (pc' := 4) X_5.here hx (hb hby d4_3) rfl rfl ?_
  refine s_iconst (pc' := 5) (z := (0 : Int32)) X_5.here hx (hb hby d4_4) rfl rfl ?_
  refine s_sipush (pc' := 8) (z := (128 : Int32)) X_5.here hx (hb hby d4_5) rfl rfl ?_
  refine s_aloadN (pc' := 9) X_5.here hx (hb hby d4_8) rfl rfl rfl ?_
  obtain ⟨T_6, X_6, e_6, st_6⟩ := getF X_5 hx hZ hown (host := "") (Or.inl (hw _ (List.mem_of_getElem? (i := 14) rfl))) Via.refl e_5 F_location_a (g := (mkF m 9 #[.val (.ref a)] [(.ref a), (.int (128 : Int32)), (.int (0 : Int32)), (.ref b_5), (.ref b_5)])) rfl rfl (hb hby d4_9)
  refine Win.go st_6 ?_
  show Win p.tables e below _ (T_6.setTop (mkF m 12 #[.val (.ref a)] [(.int u1), (.int (128 : Int32)), (.int (0 : Int32)), (.ref b_5), (.ref b_5)]))
  refine s_ior (pc' := 13) X_6.here hx (hb hby d4_12) rfl ?_
  refine Win.go (fun _ k => XS.i2b X_6.here hx rfl (hb hby d4_13) rfl k) ?_
  show Win p.tables e below _ (T_6.setTop (mkF m 14 #[.val (.ref a)] [(.int (((128 : Int32) ||| u1).toInt8.toInt32)), (.int (0 : Int32)), (.ref b_5), (.ref b_5)]))
  obtain ⟨cl_7, Ar_7, q_7, S_7, N_7, H_7, G_7⟩ := V_b_5
  obtain ⟨T_7, h_7, X_7, e_7, W_7, st_7⟩ := stB X_6 hx hZ e_6 Ar_7 (j := (0 : Int32)) (inb_of S_7 ⟨by decide, by decide⟩) (g := (mkF m 14 #[.val (.ref a)] [(.int (((128 : Int32) ||| u1).toInt8.toInt32)), (.int (0 : Int32)), (.ref b_5), (.ref b_5)])) rfl rfl (hb hby d4_14)
  have V_7 := Arv.set Ar_7 q_7 S_7 N_7 H_7 G_7 (fits_nar_byte _) W_7 0 rfl (Nat.le_of_ble_eq_true rfl)
  replace F_location_a := F_location_a.other W_7 (Or.inl ne_a_b_5)
  replace F_value_a := F_value_a.other W_7 (Or.inl ne_a_b_5)
  replace E_b_5 := E_b_5.wr W_7
  replace lt_a := Nat.lt_of_lt_of_le lt_a (Keep.of_wr W_7).1
  replace lt_b_5 := Nat.lt_of_lt_of_le lt_b_5 (Keep.of_wr W_7).1
  replace Zs := Nat.le_trans Zs (Keep.of_wr W_7).1
  replace Kp := Kp.wr W_7 (Or.inr sz_b_5)
  replace V_b_5 : Arv Z h_7 b_5 k_5 .byte (2 : Int32) [(.int (nar .byte (((128 : Int32) ||| u1).toInt8.toInt32))), (.int (0 : Int32))] (.int (0 : Int32)) := V_7
  replace Nf := Fr.snoc X_7 Nf g_b_5
  refine Win.go st_7 ?_
  show Win p.tables e below _ (T_7.setTop (mkF m 15 #[.val (.ref a)] [(.ref b_5)]))
  refine s_dup (pc' := 16) X_7.here hx (hb hby d4_15) rfl rfl ?_
  refine s_iconst (pc' := 17) (z := (1 : Int32)) X_7.here hx (hb hby d4_16) rfl rfl ?_
  refine s_sipush (pc' := 20) (z := (128 : Int32)) X_7.here hx (hb hby d4_17) rfl rfl ?_
  refine s_aloadN (pc' := 21) X_7.here hx (hb hby d4_20) rfl rfl rfl ?_
  obtain ⟨T_8, X_8, e_8, st_8⟩ := getF X_7 hx hZ hown (host := "") (Or.inl (hw _ (List.mem_of_getElem? (i := 16) rfl))) Via.refl e_7 F_value_a (g := (mkF m 21 #[.val (.ref a)] [(.ref a), (.int (128 : Int32)), (.int (1 : Int32)), (.ref b_5), (.ref b_5)])) rfl rfl (hb hby d4_21)
  refine Win.go st_8 ?_
  show Win p.tables e below _ (T_8.setTop (mkF m 24 #[.val (.ref a)] [(.int u2), (.int (128 : Int32)), (.int (1 : Int32)), (.ref b_5), (.ref b_5)]))
  refine s_ior (pc' := 25) X_8.here hx (hb hby d4_24) rfl ?_
  refine Win.go (fun _ k => XS.i2b X_8.here hx rfl (hb hby d4_25) rfl k) ?_
  show Win p.tables e below _ (T_8.setTop (mkF m 26 #[.val (.ref a)] [(.int (((128 : Int32) ||| u2).toInt8.toInt32)), (.int (1 : Int32)), (.ref b_5), (.ref b_5)]))
  obtain ⟨cl_9, Ar_9, q_9, S_9, N_9, H_9, G_9⟩ := V_b_5
  obtain ⟨T_9, h_9, X_9, e_9, W_9, st_9⟩ := stB X_8 hx hZ e_8 Ar_9 (j := (1 : Int32)) (inb_of S_9 ⟨by decide, by decide⟩) (g := (mkF m 26 #[.val (.ref a)] [(.int (((128 : Int32) ||| u2).toInt8.toInt32)), (.int (1 : Int32)), (.ref b_5), (.ref b_5)])) rfl rfl (hb hby d4_26)
  have V_9 := Arv.set Ar_9 q_9 S_9 N_9 H_9 G_9 (fits_nar_byte _) W_9 1 rfl (Nat.le_of_ble_eq_true rfl)
  replace F_location_a := F_location_a.other W_9 (Or.inl ne_a_b_5)
  replace F_value_a := F_value_a.other W_9 (Or.inl ne_a_b_5)
  replace E_b_5 := E_b_5.wr W_9
  replace lt_a := Nat.lt_of_lt_of_le lt_a (Keep.of_wr W_9).1
  replace lt_b_5 := Nat.lt_of_lt_of_le lt_b_5 (Keep.of_wr W_9).1
  replace Zs := Nat.le_trans Zs (Keep.of_wr W_9).1
  replace Kp := Kp.wr W_9 (Or.inr sz_b_5)
  replace V_b_5 : Arv Z h_9 b_5 k_5 .byte (2 : Int32) [(.int (nar .byte (((128 : Int32) ||| u1).toInt8.toInt32))), (.int (nar .byte (((128 : Int32) ||| u2).toInt8.toInt32)))] (.int (0 : Int32)) := V_9
  replace Nf := Fr.snoc X_9 Nf g_b_5
  refine Win.go st_9 ?_
  show Win p.tables e below _ (T_9.setTop (mkF m 27 #[.val (.ref a)] [(.ref b_5)]))
  refine winA X_9 hx hlk e_9 Bd.returns rfl rfl (hb hby d4_27) (by decide) (by decide) ?_
  exact ⟨Nf, Kp, b_5, k_5, rfl, g_b_5, sz_b_5, V_b_5⟩
theorem pn_0 : plainName "com/example/pointcode/pointcode/isup/CauseEncodePinLaw" = true := by first | (simp [plainName, overriddenIn]; done) | decide +kernel
theorem pd_1 : parseMethodDescriptor "(II)V" = some ⟨[.int, .int], none⟩ := by decide +kernel
theorem pd_2 : parseMethodDescriptor "()[B" = some ⟨[], some (.array .byte)⟩ := by decide +kernel
theorem ef_0 (m : MethodId) (p0 : Int32) (p1 : Int32) : entryFrame m #[(.int p0), (.int p1)] maxLocals = mkF m 0 #[.val (.int p0), .val (.int p1), .unset, .unset, .unset, .unset, .unset, .unset] [] := by first | (simp [entryFrame, mkF, argsToLocals, Value.category, maxLocals]; done) | rfl
def Q0 (Z : State) (p0 : Int32) (p1 : Int32) (h0 : Heap) (n0 : Nat) (v : Option Value) (h : Heap) (L : List Loc) : Prop := Fr n0 L ∧ v = some (.int 1)
set_option maxRecDepth 65536 in
set_option maxHeartbeats 40000000 in
theorem rm0 (l : Launch) (Z : State) (a0 : Array Value) (hw : ∀ d ∈ tables_1, d.before a0 Z = true) (ws : List Jvm.Cond) (p0 : Int32) (p1 : Int32) (h0 : Heap) (n0 : Nat) (Zs : n0 ≤ h0.size) :
    MetFree l x (head1 (Jvm.Cond.code x code maxLocals ret :: ws) room_1) (fun as' U => as' = #[(.int p0), (.int p1)] ∧ Z.Warmed39 U.vm ∧ U.heap = h0) (fun _ _ _ _ _ => True) (fun _ U o U' => ∃ v L, o = .returned v ∧ Q0 Z p0 p1 h0 n0 v U'.heap L ∧ FrameEnd U o U' L room_1.cells room_1.slots) := by
  refine MetFree.of_bodySF (plainFor_of_name pn_0) hisR ?_
  intro p e s m args below meth c s₁ Bd hml0 hP hK
  obtain ⟨rfl, hZ, hh⟩ := hP
  have hx := Bd.exec
  have hby := Bd.bytes
  have hml : c.maxLocals = 8 := hml0
  have hown : s.vm.findClass "com/example/pointcode/pointcode/isup/CauseEncodePinLaw" = some m.cls := findClass_of_methodNamed Bd.named
  have hnm := (name_of_methodNamed Bd.named Bd.method).1
  have hlk : meth.locks = false := Bd.notSynchronized
  have X0 : Stand p l e room_1 s m #[(.int p0), (.int p1)] below meth c s₁ [] 0 0 := Stand.of_body Bd
  have e0 : s₁.heap = h0 := by rw [← hh, Bd.state]; rfl
  have Nf := Fr.nil n0
  refine (?_ : Win p.tables e below (PostQ s (Q0 Z p0 p1 h0 n0) room_1.cells room_1.slots) (s₁.setTop (entryFrame m #[(.int p0), (.int p1)] maxLocals)))
  rw [ef_0]
  show Win p.tables e below _ (s₁.setTop (mkF m 0 #[.val (.int p0), .val (.int p1), .unset, .unset, .unset, .unset, .unset, .unset] []))
  refine s_iloadN (pc' := 1) X0.here hx (hb hby at_0) rfl rfl ?_
  refine s_bipush (pc' := 3) (z := (15 : Int32)) X0.here hx (hb hby at_1) rfl rfl ?_
  refine s_iand (pc' := 4) X0.here hx (hb hby at_3) rfl ?_
  refine s_istoreN (pc' := 5) (l' := #[.val (.int p0), .val (.int p1), .val (.int (p0 &&& (15 : Int32))), .unset, .unset, .unset, .unset, .unset]) X0.here hx (hb hby at_4) rfl rfl ?_
  generalize hlo : (p0 &&& (15 : Int32)) = lo
  show Win p.tables e below _ (s₁.setTop (mkF m 5 #[.val (.int p0), .val (.int p1), .val (.int lo), .unset, .unset, .unset, .unset, .unset] []))
  have blo : 0 ≤ lo.toInt ∧ lo.toInt ≤ 15 := hlo ▸ c_and p0 15 (by decide)
  refine s_iloadN (pc' := 6) X0.here hx (hb hby at_5) rfl rfl ?_
  refine s_bipush (pc' := 8) (z := (127 : Int32)) X0.here hx (hb hby at_6) rfl rfl ?_
  refine s_iand (pc' := 9) X0.here hx (hb hby at_8) rfl ?_
  refine s_istoreN (pc' := 10) (l' := #[.val (.int p0), .val (.int p1), .val (.int lo), .val (.int (p1 &&& (127 : Int32))), .unset, .unset, .unset, .unset]) X0.here hx (hb hby at_9) rfl rfl ?_
  generalize hva : (p1 &&& (127 : Int32)) = va
  show Win p.tables e below _ (s₁.setTop (mkF m 10 #[.val (.int p0), .val (.int p1), .val (.int lo), .val (.int va), .unset, .unset, .unset, .unset] []))
  have bva : 0 ≤ va.toInt ∧ va.toInt ≤ 127 := hva ▸ c_and p1 127 (by decide)
  obtain ⟨T_10, h_10, X_10, e_10, Ex_10, A_10, D_10, -, st_10⟩ := newO X0 hx hZ hown (hw _ (List.mem_of_getElem? (i := 0) rfl)) (hw _ (List.mem_of_getElem? (i := 1) rfl)) (hw _ (List.mem_of_getElem? (i := 2) rfl)) e0 (g := (mkF m 10 #[.val (.int p0), .val (.int p1), .val (.int lo), .val (.int va), .unset, .unset, .unset, .unset] [])) rfl (hb hby at_10) (by decide) (by decide)
  obtain ⟨b_10, g_10⟩ : ∃ z, z = h0.size := ⟨_, rfl⟩
  have g_b_10 : n0 ≤ b_10 := Nat.le_trans Zs (Nat.le_of_eq g_10.symm)
  rw [← g_10] at A_10 D_10 st_10
  replace Zs := Nat.le_trans Zs Ex_10.1
  have E_b_10 := A_10
  have lt_b_10 := E_b_10.lt
  have F_location_b_10 : Fld Z h_10 b_10 "com/example/pointcode/pointcode/isup/Cause" "location" "I" (.int (0 : Int32)) := D_10 (Or.inr (hw _ (List.mem_of_getElem? (i := 15) rfl))) (ty := .int) (by decide)
  have F_value_b_10 : Fld Z h_10 b_10 "com/example/pointcode/pointcode/isup/Cause" "value" "I" (.int (0 : Int32)) := D_10 (Or.inr (hw _ (List.mem_of_getElem? (i := 17) rfl))) (ty := .int) (by decide)
  refine Win.go st_10 ?_
  show Win p.tables e below _ (T_10.setTop (mkF m 13 #[.val (.int p0), .val (.int p1), .val (.int lo), .val (.int va), .unset, .unset, .unset, .unset] [(.ref b_10)]))
  refine s_dup (pc' := 14) X_10.here hx (hb hby at_13) rfl rfl ?_
  refine s_iloadN (pc' := 15) X_10.here hx (hb hby at_14) rfl rfl ?_
  refine s_iloadN (pc' := 16) X_10.here hx (hb hby at_15) rfl rfl ?_
  obtain ⟨_, _, ⟨T_11, L_11, k_11, n_11⟩, -, X_11, ⟨Lc_11, hQ_11, l_11, y_11, z_11⟩, st_11⟩ := X_10.specialBack hx (y := (⟨"com/example/pointcode/pointcode/isup/Cause", "<init>", "(II)V"⟩ : MethodName)) rfl hown (mvT hZ (hw _ (List.mem_of_getElem? (i := 3) rfl))) (mvT hZ (hw _ (List.mem_of_getElem? (i := 4) rfl))) (mvT hZ (hw _ (List.mem_of_getElem? (i := 5) rfl))) (by decide) (backOf (W := 1) (rm1 l Z a0 hw [] b_10 lo va h_10 n0 Zs E_b_10 F_location_b_10 F_value_b_10 g_b_10 (by omega)) hZ (hw _ (List.mem_of_getElem? (i := 5) rfl)) (hw _ (List.mem_of_getElem? (i := 2) rfl)) (by decide) (by decide)) (g := (mkF m 16 #[.val (.int p0), .val (.int p1), .val (.int lo), .val (.int va), .unset, .unset, .unset, .unset] [(.int va), (.int lo), (.ref b_10), (.ref b_10)])) rfl (by rw [hml]; rfl) (Steps.refl _) (a := b_10) (argsL := [(.int lo), (.int va)]) (rest := [(.ref b_10)]) (lenOf pd_1 rfl) rfl (by show 2 * 0 + _ ≤ _; exact Nat.le_of_eq rfl) (hb hby at_16) (fun _ _ => ⟨rfl, e_10, (by decide : 1 + 0 ≤ _), (by decide : 2 + 0 ≤ _)⟩)
  dsimp only [Pt.U, Pt.locs, Pt.cells, Pt.slots] at X_11 l_11 y_11 z_11 st_11 hQ_11
  subst l_11 y_11 z_11
  obtain ⟨h_11, e_11⟩ : ∃ z, T_11.heap = z := ⟨_, rfl⟩
  rw [e_11] at hQ_11
  obtain ⟨Nq_11, K_11, n_11_F_location_b_10, n_11_F_value_b_10, rfl⟩ := hQ_11
  replace Nf := Fr.app Nf Nq_11
  replace E_b_10 := E_b_10.keep K_11
  clear F_location_b_10
  clear F_value_b_10
  replace lt_b_10 := Nat.lt_of_lt_of_le lt_b_10 K_11.1
  replace Zs := Nat.le_trans Zs K_11.1
  have F_location_b_10 := n_11_F_location_b_10
  have F_value_b_10 := n_11_F_value_b_10
  refine Win.come st_11 ?_
  show Win p.tables e below _ (T_11.setTop (mkF m 19 #[.val (.int p0), .val (.int p1), .val (.int lo), .val (.int va), .unset, .unset, .unset, .unset] [(.ref b_10)]))
  refine s_astore (pc' := 21) (l' := #[.val (.int p0), .val (.int p1), .val (.int lo), .val (.int va), .val (.ref b_10), .unset, .unset, .unset]) X_11.here hx (hb hby at_19) rfl rfl rfl ?_
  refine s_aload (pc' := 23) X_11.here hx (hb hby at_21) rfl rfl rfl ?_
  obtain ⟨cq_12, kq_12, q_12a, q_12b, q_12c⟩ := isOf hZ e_11 E_b_10
  obtain ⟨_, _, ⟨T_12, L_12, k_12, n_12⟩, -, X_12, ⟨Lc_12, hQ_12, l_12, y_12, z_12⟩, st_12⟩ := X_11.virtualBack hx (y := (⟨"com/example/pointcode/pointcode/isup/Cause", "encode", "()[B"⟩ : MethodName)) (z := (⟨"com/example/pointcode/pointcode/isup/Cause", "encode", "()[B"⟩ : MethodName)) hown (mvT hZ (hw _ (List.mem_of_getElem? (i := 18) rfl))) (mvT hZ (hw _ (List.mem_of_getElem? (i := 19) rfl))) (notFace_of_selects (args := #[]) (mvT hZ (hw _ (List.mem_of_getElem? (i := 21) rfl)))) (mvT hZ (hw _ (List.mem_of_getElem? (i := 21) rfl))) (mvT hZ (hw _ (List.mem_of_getElem? (i := 20) rfl))) (by decide) (backOf (W := 0) (rm4 l Z a0 hw [] b_10 lo va h_11 n0 Zs F_location_b_10 F_value_b_10) hZ (hw _ (List.mem_of_getElem? (i := 22) rfl)) (hw _ (List.mem_of_getElem? (i := 2) rfl)) (by decide) (by decide)) q_12a q_12c (g := (mkF m 23 #[.val (.int p0), .val (.int p1), .val (.int lo), .val (.int va), .val (.ref b_10), .unset, .unset, .unset] [(.ref b_10)])) rfl (by rw [hml]; rfl) (Steps.refl _) (argsL := []) (rest := []) (lenOf pd_2 rfl) rfl (by show 2 * 0 + _ ≤ _; exact Nat.le_of_eq rfl) (hb hby at_23) (fun _ _ => ⟨rfl, e_11, (by decide : 1 + 1 ≤ _), (by decide : 2 + 2 ≤ _)⟩)
  dsimp only [Pt.U, Pt.locs, Pt.cells, Pt.slots] at X_12 l_12 y_12 z_12 st_12 hQ_12
  subst l_12 y_12 z_12
  obtain ⟨h_12, e_12⟩ : ∃ z, T_12.heap = z := ⟨_, rfl⟩
  rw [e_12] at hQ_12
  obtain ⟨Nq_12, K_12, b_12, kk_12, rfl, g_b_12, so_12, n_12_V_b_12⟩ := hQ_12
  replace Nf := Fr.app Nf Nq_12
  have ne_b_10_b_12 : b_10 ≠ b_12 := Nat.ne_of_lt (Nat.lt_of_lt_of_le lt_b_10 so_12)
  replace E_b_10 := E_b_10.keep K_12
  replace F_location_b_10 := F_location_b_10.keep K_12 nin0
  replace F_value_b_10 := F_value_b_10.keep K_12 nin0
  replace lt_b_10 := Nat.lt_of_lt_of_le lt_b_10 K_12.1
  replace Zs := Nat.le_trans Zs K_12.1
  have V_b_12 := n_12_V_b_12
  have lt_b_12 := V_b_12.lt
  refine Win.come st_12 ?_
  show Win p.tables e below _ (T_12.setTop (mkF m 26 #[.val (.int p0), .val (.int p1), .val (.int lo), .val (.int va), .val (.ref b_10), .unset, .unset, .unset] [(.ref b_12)]))
  refine s_astore (pc' := 28) (l' := #[.val (.int p0), .val (.int p1), .val (.int lo), .val (.int va), .val (.ref b_10), .val (.ref b_12), .unset, .unset]) X_12.here hx (hb hby at_26) rfl rfl rfl ?_
  refine s_aload (pc' := 30) X_12.here hx (hb hby at_28) rfl rfl rfl ?_
  refine Win.go (fun _ k => XS.ifnullNo X_12.here hx rfl (hb hby at_30) rfl k) ?_
  show Win p.tables e below _ (T_12.setTop (mkF m 33 #[.val (.int p0), .val (.int p1), .val (.int lo), .val (.int va), .val (.ref b_10), .val (.ref b_12), .unset, .unset] []))
  refine s_aload (pc' := 35) X_12.here hx (hb hby at_33) rfl rfl rfl ?_
  obtain ⟨cl_13, Ar_13, q_13, S_13, N_13, H_13, G_13⟩ := id V_b_12
  refine Win.go (fun _ k => X_12.arraylength hx (by rw [e_12]; exact Ar_13.1) (State.isArrayOf_alike hZ.alike Ar_13.2.1) (g := (mkF m 35 #[.val (.int p0), .val (.int p1), .val (.int lo), .val (.int va), .val (.ref b_10), .val (.ref b_12), .unset, .unset] [(.ref b_12)])) rfl rfl (hb hby at_35) _ k) ?_
  rw [len_of S_13 N_13]
  show Win p.tables e below _ (T_12.setTop (mkF m 36 #[.val (.int p0), .val (.int p1), .val (.int lo), .val (.int va), .val (.ref b_10), .val (.ref b_12), .unset, .unset] [(.int (2 : Int32))]))
  refine s_iconst (pc' := 37) (z := (2 : Int32)) X_12.here hx (hb hby at_36) rfl rfl ?_
  refine s_icmpYes (pc' := 42) X_12.here hx (hb hby at_37) (teqI (x := (2 : Int32)) (y := (2 : Int32)) (by decide)).1 (by decide) (by decide) ?_
  refine s_aload (pc' := 44) X_12.here hx (hb hby at_42) rfl rfl rfl ?_
  refine s_iconst (pc' := 45) (z := (0 : Int32)) X_12.here hx (hb hby at_44) rfl rfl ?_
  obtain ⟨cl_14, Ar_14, q_14, S_14, N_14, H_14, G_14⟩ := id V_b_12
  have hi_14 : ¬ ((0 : Int32) < 0 ∨ cl_14.slots.size ≤ ((0 : Int32)).toNatClampNeg) := inb_of S_14 ⟨by decide, by decide⟩
  refine Win.go (fun _ k => X_12.baloadBytes hx (j := (0 : Int32)) (v := (.int (nar .byte (((128 : Int32) ||| lo).toInt8.toInt32)))) (by rw [e_12]; exact Ar_14.1) (State.isArrayOf_alike hZ.alike Ar_14.2.1) Ar_14.2.2 hi_14 (H_14.at hi_14 rfl) (g := (mkF m 45 #[.val (.int p0), .val (.int p1), .val (.int lo), .val (.int va), .val (.ref b_10), .val (.ref b_12), .unset, .unset] [(.int (0 : Int32)), (.ref b_12)])) rfl rfl (hb hby at_45) _ k) ?_
  show Win p.tables e below _ (T_12.setTop (mkF m 46 #[.val (.int p0), .val (.int p1), .val (.int lo), .val (.int va), .val (.ref b_10), .val (.ref b_12), .unset, .unset] [(.int (nar .byte (((128 : Int32) ||| lo).toInt8.toInt32)))]))
  refine s_sipush (pc' := 49) (z := (255 : Int32)) X_12.here hx (hb hby at_46) rfl rfl ?_
  refine s_iand (pc' := 50) X_12.here hx (hb hby at_49) rfl ?_
  refine s_istore (pc' := 52) (l' := #[.val (.int p0), .val (.int p1), .val (.int lo), .val (.int va), .val (.ref b_10), .val (.ref b_12), .val (.int ((nar .byte (((128 : Int32) ||| lo).toInt8.toInt32)) &&& (255 : Int32))), .unset]) X_12.here hx (hb hby at_50) rfl rfl ?_
  refine s_aload (pc' := 54) X_12.here hx (hb hby at_52) rfl rfl rfl ?_
  refine s_iconst (pc' := 55) (z := (1 : Int32)) X_12.here hx (hb hby at_54) rfl rfl ?_
  obtain ⟨cl_15, Ar_15, q_15, S_15, N_15, H_15, G_15⟩ := id V_b_12
  have hi_15 : ¬ ((1 : Int32) < 0 ∨ cl_15.slots.size ≤ ((1 : Int32)).toNatClampNeg) := inb_of S_15 ⟨by decide, by decide⟩
  refine Win.go (fun _ k => X_12.baloadBytes hx (j := (1 : Int32)) (v := (.int (nar .byte (((128 : Int32) ||| va).toInt8.toInt32)))) (by rw [e_12]; exact Ar_15.1) (State.isArrayOf_alike hZ.alike Ar_15.2.1) Ar_15.2.2 hi_15 (H_15.at hi_15 rfl) (g := (mkF m 55 #[.val (.int p0), .val (.int p1), .val (.int lo), .val (.int va), .val (.ref b_10), .val (.ref b_12), .val (.int ((nar .byte (((128 : Int32) ||| lo).toInt8.toInt32)) &&& (255 : Int32))), .unset] [(.int (1 : Int32)), (.ref b_12)])) rfl rfl (hb hby at_55) _ k) ?_
  show Win p.tables e below _ (T_12.setTop (mkF m 56 #[.val (.int p0), .val (.int p1), .val (.int lo), .val (.int va), .val (.ref b_10), .val (.ref b_12), .val (.int ((nar .byte (((128 : Int32) ||| lo).toInt8.toInt32)) &&& (255 : Int32))), .unset] [(.int (nar .byte (((128 : Int32) ||| va).toInt8.toInt32)))]))
  refine s_sipush (pc' := 59) (z := (255 : Int32)) X_12.here hx (hb hby at_56) rfl rfl ?_
  refine s_iand (pc' := 60) X_12.here hx (hb hby at_59) rfl ?_
  refine s_istore (pc' := 62) (l' := #[.val (.int p0), .val (.int p1), .val (.int lo), .val (.int va), .val (.ref b_10), .val (.ref b_12), .val (.int ((nar .byte (((128 : Int32) ||| lo).toInt8.toInt32)) &&& (255 : Int32))), .val (.int ((nar .byte (((128 : Int32) ||| va).toInt8.toInt32)) &&& (255 : Int32)))]) X_12.here hx (hb hby at_60) rfl rfl ?_
  have f0 := own_b blo.1 (by omega)
  have f1 := own_b bva.1 bva.2
  have g0 := c_iadd 128 lo
  have g1 := c_iadd 128 va
  have g2 : (128 : Int32).toInt = 128 := rfl
  have g3 := rng32 (128 + lo)
  have g4 := rng32 (128 + va)
  refine s_iload (pc' := 64) X_12.here hx (hb hby at_62) rfl rfl ?_
  refine s_sipush (pc' := 67) (z := (128 : Int32)) X_12.here hx (hb hby at_64) rfl rfl ?_
  refine s_iloadN (pc' := 68) X_12.here hx (hb hby at_67) rfl rfl ?_
  refine s_iadd (pc' := 69) X_12.here hx (hb hby at_68) rfl ?_
  by_cases hc69 : (((nar .byte (((128 : Int32) ||| lo).toInt8.toInt32)) &&& (255 : Int32))).toInt = (((128 : Int32) + lo)).toInt
  · skip
    refine s_icmpNo (pc' := 72) X_12.here hx (hb hby at_69) rfl (teqI (x := ((nar .byte (((128 : Int32) ||| lo).toInt8.toInt32)) &&& (255 : Int32))) (y := ((128 : Int32) + lo)) hc69).2 ?_
    refine s_iload (pc' := 74) X_12.here hx (hb hby at_72) rfl rfl ?_
    refine s_sipush (pc' := 77) (z := (128 : Int32)) X_12.here hx (hb hby at_74) rfl rfl ?_
    refine s_iloadN (pc' := 78) X_12.here hx (hb hby at_77) rfl rfl ?_
    refine s_iadd (pc' := 79) X_12.here hx (hb hby at_78) rfl ?_
    by_cases hc79 : (((nar .byte (((128 : Int32) ||| va).toInt8.toInt32)) &&& (255 : Int32))).toInt = (((128 : Int32) + va)).toInt
    · skip
      refine s_icmpNo (pc' := 82) X_12.here hx (hb hby at_79) rfl (teqI (x := ((nar .byte (((128 : Int32) ||| va).toInt8.toInt32)) &&& (255 : Int32))) (y := ((128 : Int32) + va)) hc79).2 ?_
      refine s_iconst (pc' := 83) (z := (1 : Int32)) X_12.here hx (hb hby at_82) rfl rfl ?_
      refine s_goto (pc' := 87) X_12.here hx (hb hby at_83) (by decide) (by decide) ?_
      refine winN X_12 hx hlk e_12 (t := .boolean) Bd.returns (by simp) (hb hby at_87) (by decide) (by decide) (z' := 1) rfl ⟨Nf, rfl⟩
    · skip
      refine s_icmpYes (pc' := 86) X_12.here hx (hb hby at_79) (feqI (x := ((nar .byte (((128 : Int32) ||| va).toInt8.toInt32)) &&& (255 : Int32))) (y := ((128 : Int32) + va)) hc79).2 (by decide) (by decide) ?_
      refine s_iconst (pc' := 87) (z := (0 : Int32)) X_12.here hx (hb hby at_86) rfl rfl ?_
      exfalso
      omega
  · skip
    refine s_icmpYes (pc' := 86) X_12.here hx (hb hby at_69) (feqI (x := ((nar .byte (((128 : Int32) ||| lo).toInt8.toInt32)) &&& (255 : Int32))) (y := ((128 : Int32) + lo)) hc69).2 (by decide) (by decide) ?_
    refine s_iconst (pc' := 87) (z := (0 : Int32)) X_12.here hx (hb hby at_86) rfl rfl ?_
    exfalso
    omega
set_option maxRecDepth 65536 in
set_option maxHeartbeats 40000000 in
theorem comes_1 {Post : Tables → Env → Array Value → State → Outcome → State → Prop} (hpost : ∀ tb e args s v u, (limb_1_1.after args s (.returned v) u = true ∧ limb_1_2.after args s (.returned v) u = true ∧ True) → FrameEnd s (.returned v) u (Jvm.fieldLocs frame_1_writes args s ++ Jvm.arrayLocs frame_1_arrays args s ++ Jvm.staticLocs frame_1_statics s) 16 128 → Post tb e args s (.returned v) u) :
    ArmFor flags0 classFile x code maxLocals ret World_1 tables_1 room_1 Calls_1 rest_1 Pre_1 Post := by
  intro l hfl _ _ p e ha hc hk s m args below hf hA hF happ hP
  obtain ⟨hcalls, hrest, hpre⟩ := hP
  obtain ⟨-, -, -, hnamed, -, -, -, hat⟩ := (Spec.applies_iff hf).mp happ
  obtain ⟨hg, hn⟩ := and_e (Cond.before_iff.mp (show (Jvm.Cond.and given_1 narrow_1).before args s = true from hpre))
  obtain ⟨g1, g2⟩ := and_e hg
  obtain ⟨g3, g4⟩ := and_e g2
  obtain ⟨w0, w1, rfl⟩ : ∃ w0 w1 : Value, args = #[w0, w1] := by
    have hs : args.size = 2 := by simpa [Cond.value, given_1] using g1
    obtain ⟨L⟩ := args
    match L, hs with
    | [w0, w1], _ => exact ⟨w0, w1, rfl⟩
  have hw := fun d (hd : d ∈ tables_1) => atoms_spec (ws := Jvm.Cond.code x code maxLocals ret :: tables_1) hat d (List.mem_cons_of_mem _ hd)
  have hfit : Fit s := fun {y c} hc i hi => by
    obtain ⟨ha, rfl⟩ := Array.getElem?_eq_some_iff.mp hc
    have q := List.all_eq_true.mp ((Array.all_eq_true_iff_forall_mem.mp hF) _ (Array.getElem_mem ha)) i (List.mem_range.mpr hi)
    simpa [Array.getElem?_eq_getElem hi] using q
  obtain ⟨i0, ei0⟩ := is_v g3
  obtain rfl : w0 = (.int i0) := Option.some.inj ei0
  obtain ⟨i1, ei1⟩ := is_v g4
  obtain rfl : w1 = (.int i1) := Option.some.inj ei1
  obtain ⟨n, o, h1, h2, h3, _, L, rfl, ⟨N, rfl⟩, hq⟩ := rm0 l s _ hw tables_1 i0 i1 s.heap s.heap.size (Nat.le_refl _) p e ha hc hk s m _ below hf ((Spec.applies_iff_loose hf).mp happ).1 ⟨rfl, State.Warmed39.refl s, rfl⟩ trivial
  refine ⟨n, _, h1, h2, h3, hpost _ _ _ _ _ _ ⟨Cond.after_iff.mpr rfl, Cond.after_iff.mpr (eq_i res_at (Term.int_eval (1)) rfl), trivial⟩ ⟨hq.1, hq.2.1, (hq.2.2.sift fun y hy => Or.inr (N y hy)).mono (by decide) (by decide)⟩⟩
theorem main_1_1 : Claimed_1_1 := comes_1 fun _ _ _ _ _ _ h hF => ⟨h.1, hF⟩
theorem main_1_2 : Claimed_1_2 := comes_1 fun _ _ _ _ _ _ h hF => ⟨h.2.1, hF⟩
end Jvm.Pilot.@@N@@
namespace Jvm.Pilot.@@N@@
open Jvm Jvm.ClassFile Sem Op Lib Jvm.Free Jvm.Stand Jvm.Pilot.@@N@@.Jvm.D
/-! MADE BY PROGRAM (witnessworld.py) out of the Statement's table words and the real class files: 10 classes; the members and pool entries that the words name. The judged class is class 1, her method 1. -/
namespace start1
open Jvm.ClassFile
def u (s : String) : CpInfo := .utf8 (stringToUtf16 s)
/-- a pool by its gaps: so many unusable entries, then the entry; so many at the end -/
def gap : Nat → List CpInfo → List CpInfo
  | 0, r => r
  | n + 1, r => .unusable :: gap n r
def poolList (es : List (Nat × CpInfo)) (last : Nat) : List CpInfo := es.foldr (fun e r => gap e.1 (e.2 :: r)) (gap last [])
def pool (es : List (Nat × CpInfo)) (last : Nat) : Array CpInfo := ⟨poolList es last⟩
def fileOf (pool : Array CpInfo) (this : Nat) (attrs : Array Attribute := #[]) (ms : Array MethodInfo := #[]) (fl : Nat := 33) (sup : Nat := 0) (ifs : Array Nat := #[]) (fds : Array FieldInfo := #[]) : ClassFile where
  minorVersion := 0
  majorVersion := 65
  constantPool := pool
  accessFlags := fl
  thisClass := this
  superClass := sup
  interfaces := ifs
  fields := fds
  methods := ms
  attributes := attrs
def plain (name : String) (sup : Option ClassId) : Class where
  name := name
  kind := .ordinary
  loader := none
  accessFlags := 33
  super := sup
  interfaces := #[]
  cf := none
  fields := #[]
  methods := #[]
  instanceTypes := #[]
  staticTypes := #[]
  resolved := #[]
  callSites := []
  init := .initialized
  statics := none
  mirror := none

def pool0 : Array CpInfo := pool [(5, u "<init>"), (0, u "()V"), (1, .class_ 10), (1, u "java/lang/Object")] 113

def k0c0 : Code := { maxStack := 0, maxLocals := 1, code := object_method_1_code, exceptionTable := #[], attributes := #[] }
def k0m0 : Method := { name := "<init>", desc := "()V", sig := { parameters := [], returnType := none }, accessFlags := 1, code := some k0c0 }
/-- java/lang/Object -/
def k0 : Class := { plain "java/lang/Object" none with
  accessFlags := 33
  interfaces := #[]
  cf := some (fileOf pool0 8 #[] #[{ accessFlags := 1, nameIndex := 5, descriptorIndex := 6, attributes := #[] }] 33 0 #[] #[])
  fields := #[]
  methods := #[k0m0]
  instanceTypes := #[]
  staticTypes := #[]
  resolved := Array.replicate 124 none
  statics := none }

def pool1 : Array CpInfo := pool [(2, .class_ 4), (1, u "java/lang/Object"), (0, u "<init>"), (0, u "()V"), (0, .class_ 8), (0, u "com/example/pointcode/pointcode/isup/Cause"), (0, .methodref 7 10), (0, .nameAndType 5 11), (0, u "(II)V"), (0, .methodref 7 13), (0, .nameAndType 14 15), (0, u "encode"), (0, u "()[B"), (0, .class_ 17), (0, u "com/example/pointcode/pointcode/isup/CauseEncodePinLaw"), (2, u "law"), (0, u "(II)Z")] 5

def k1m0 : Method := { name := "<init>", desc := "()V", sig := { parameters := [], returnType := none }, accessFlags := 1, code := none }
def k1c1 : Code := { maxStack := 4, maxLocals := 8, code := code, exceptionTable := #[], attributes := #[] }
def k1m1 : Method := { name := "law", desc := "(II)Z", sig := { parameters := [.int, .int], returnType := some .boolean }, accessFlags := 9, code := some k1c1 }
/-- com/example/pointcode/pointcode/isup/CauseEncodePinLaw -/
def k1 : Class := { plain "com/example/pointcode/pointcode/isup/CauseEncodePinLaw" (some 0) with
  accessFlags := 49
  interfaces := #[]
  cf := some (fileOf pool1 16 #[] #[{ accessFlags := 1, nameIndex := 5, descriptorIndex := 6, attributes := #[] }, { accessFlags := 9, nameIndex := 20, descriptorIndex := 21, attributes := #[] }] 49 2 #[] #[])
  fields := #[]
  methods := #[k1m0, k1m1]
  instanceTypes := #[]
  staticTypes := #[]
  resolved := Array.replicate 27 none
  statics := none }

def pool2 : Array CpInfo := pool [(1, .methodref 2 3), (0, .class_ 4), (0, .nameAndType 5 6), (0, u "java/lang/Object"), (0, u "<init>"), (0, u "()V"), (0, .class_ 8), (0, u "java/lang/Record")] 13

def k2c0 : Code := { maxStack := 1, maxLocals := 1, code := jdk_30_method_1_code, exceptionTable := #[], attributes := #[] }
def k2m0 : Method := { name := "<init>", desc := "()V", sig := { parameters := [], returnType := none }, accessFlags := 4, code := some k2c0 }
/-- java/lang/Record -/
def k2 : Class := { plain "java/lang/Record" (some 0) with
  accessFlags := 1057
  interfaces := #[]
  cf := some (fileOf pool2 7 #[] #[{ accessFlags := 4, nameIndex := 5, descriptorIndex := 6, attributes := #[] }] 1057 2 #[] #[])
  fields := #[]
  methods := #[k2m0]
  instanceTypes := #[]
  staticTypes := #[]
  resolved := Array.replicate 22 none
  statics := none }

def pool3 : Array CpInfo := pool [(1, .methodref 2 3), (0, .class_ 4), (0, .nameAndType 5 6), (0, u "java/lang/Record"), (0, u "<init>"), (0, u "()V"), (9, .fieldref 17 18), (0, .class_ 19), (0, .nameAndType 20 21), (0, u "com/example/pointcode/pointcode/isup/Cause"), (0, u "location"), (0, u "I"), (0, .fieldref 17 23), (0, .nameAndType 24 21), (0, u "value"), (8, u "(II)V"), (2, u "DEFINITIONS"), (0, u "Ljava/util/Map;"), (182, u "PUBLIC_NETWORK_SERVING_THE_REMOTE_USER"), (2, u "BEYOND_INTERWORKING_POINT"), (1, u "NO_ROUTE_TO_DESTINATION"), (1, u "NORMAL_CALL_CLEARING"), (1, u "EXCHANGE_ROUTING_ERROR"), (1, u "INVALID_NUMBER_FORMAT"), (1, u "NORMAL_UNSPECIFIED"), (1, u "TEMPORARY_FAILURE"), (1, u "BEARER_CAPABILITY_NOT_IMPLEMENTED"), (1, u "SERVICE_OR_OPTION_NOT_IMPLEMENTED"), (1, u "RECOVERY_ON_TIMER_EXPIRY"), (1, u "INTERWORKING_UNSPECIFIED"), (1, u "LAST_OCTET"), (7, u "encode"), (0, u "()[B")] 44

def k3c0 : Code := { maxStack := 4, maxLocals := 3, code := prog_45_method_1_code, exceptionTable := #[], attributes := #[] }
def k3m0 : Method := { name := "<init>", desc := "(II)V", sig := { parameters := [.int, .int], returnType := none }, accessFlags := 1, code := some k3c0 }
def k3c1 : Code := { maxStack := 5, maxLocals := 1, code := prog_45_method_2_code, exceptionTable := #[], attributes := #[] }
def k3m1 : Method := { name := "encode", desc := "()[B", sig := { parameters := [], returnType := some (.array .byte) }, accessFlags := 1, code := some k3c1 }
/-- com/example/pointcode/pointcode/isup/Cause -/
def k3 : Class := { plain "com/example/pointcode/pointcode/isup/Cause" (some 2) with
  accessFlags := 49
  interfaces := #[]
  cf := some (fileOf pool3 17 #[] #[{ accessFlags := 1, nameIndex := 5, descriptorIndex := 33, attributes := #[] }, { accessFlags := 1, nameIndex := 253, descriptorIndex := 254, attributes := #[] }] 49 2 #[] #[{ accessFlags := 18, nameIndex := 20, descriptorIndex := 21, attributes := #[] }, { accessFlags := 18, nameIndex := 24, descriptorIndex := 21, attributes := #[] }, { accessFlags := 25, nameIndex := 220, descriptorIndex := 21, attributes := #[] }, { accessFlags := 25, nameIndex := 223, descriptorIndex := 21, attributes := #[] }, { accessFlags := 25, nameIndex := 225, descriptorIndex := 21, attributes := #[] }, { accessFlags := 25, nameIndex := 227, descriptorIndex := 21, attributes := #[] }, { accessFlags := 25, nameIndex := 229, descriptorIndex := 21, attributes := #[] }, { accessFlags := 25, nameIndex := 231, descriptorIndex := 21, attributes := #[] }, { accessFlags := 25, nameIndex := 233, descriptorIndex := 21, attributes := #[] }, { accessFlags := 25, nameIndex := 235, descriptorIndex := 21, attributes := #[] }, { accessFlags := 25, nameIndex := 237, descriptorIndex := 21, attributes := #[] }, { accessFlags := 25, nameIndex := 239, descriptorIndex := 21, attributes := #[] }, { accessFlags := 25, nameIndex := 241, descriptorIndex := 21, attributes := #[] }, { accessFlags := 25, nameIndex := 243, descriptorIndex := 21, attributes := #[] }, { accessFlags := 26, nameIndex := 245, descriptorIndex := 21, attributes := #[] }, { accessFlags := 26, nameIndex := 36, descriptorIndex := 37, attributes := #[] }])
  fields := #[{ name := "location", type := .int, accessFlags := 18, slot := 0, constantValue := 0 }, { name := "value", type := .int, accessFlags := 18, slot := 1, constantValue := 0 }, { name := "PUBLIC_NETWORK_SERVING_THE_REMOTE_USER", type := .int, accessFlags := 25, slot := 0, constantValue := 0 }, { name := "BEYOND_INTERWORKING_POINT", type := .int, accessFlags := 25, slot := 1, constantValue := 0 }, { name := "NO_ROUTE_TO_DESTINATION", type := .int, accessFlags := 25, slot := 2, constantValue := 0 }, { name := "NORMAL_CALL_CLEARING", type := .int, accessFlags := 25, slot := 3, constantValue := 0 }, { name := "EXCHANGE_ROUTING_ERROR", type := .int, accessFlags := 25, slot := 4, constantValue := 0 }, { name := "INVALID_NUMBER_FORMAT", type := .int, accessFlags := 25, slot := 5, constantValue := 0 }, { name := "NORMAL_UNSPECIFIED", type := .int, accessFlags := 25, slot := 6, constantValue := 0 }, { name := "TEMPORARY_FAILURE", type := .int, accessFlags := 25, slot := 7, constantValue := 0 }, { name := "BEARER_CAPABILITY_NOT_IMPLEMENTED", type := .int, accessFlags := 25, slot := 8, constantValue := 0 }, { name := "SERVICE_OR_OPTION_NOT_IMPLEMENTED", type := .int, accessFlags := 25, slot := 9, constantValue := 0 }, { name := "RECOVERY_ON_TIMER_EXPIRY", type := .int, accessFlags := 25, slot := 10, constantValue := 0 }, { name := "INTERWORKING_UNSPECIFIED", type := .int, accessFlags := 25, slot := 11, constantValue := 0 }, { name := "LAST_OCTET", type := .int, accessFlags := 26, slot := 12, constantValue := 0 }, { name := "DEFINITIONS", type := (.object "java/util/Map"), accessFlags := 26, slot := 13, constantValue := 0 }]
  methods := #[k3m0, k3m1]
  instanceTypes := #[.int, .int]
  staticTypes := #[.int, .int, .int, .int, .int, .int, .int, .int, .int, .int, .int, .int, .int, (.object "java/util/Map")]
  resolved := Array.replicate 299 none
  statics := none }

def pool4 : Array CpInfo := pool [(1, u "java/lang/Cloneable"), (0, .class_ 1), (0, u "java/lang/Object"), (0, .class_ 3)] 3

/-- java/lang/Cloneable -/
def k4 : Class := { plain "java/lang/Cloneable" (some 0) with
  accessFlags := 1537
  interfaces := #[]
  cf := some (fileOf pool4 2 #[] #[] 1537 4 #[] #[])
  fields := #[]
  methods := #[]
  instanceTypes := #[]
  staticTypes := #[]
  resolved := Array.replicate 8 none
  statics := none }

def pool5 : Array CpInfo := pool [(1, u "java/io/Serializable"), (0, .class_ 1), (0, u "java/lang/Object"), (0, .class_ 3)] 3

/-- java/io/Serializable -/
def k5 : Class := { plain "java/io/Serializable" (some 0) with
  accessFlags := 1537
  interfaces := #[]
  cf := some (fileOf pool5 2 #[] #[] 1537 4 #[] #[])
  fields := #[]
  methods := #[]
  instanceTypes := #[]
  staticTypes := #[]
  resolved := Array.replicate 8 none
  statics := none }

/-- the primitive byte -/
def k6 : Class := { plain "byte" none with kind := .primitive 'B', accessFlags := 0x411 }
/-- [B -/
def k7 : Class := { plain "[B" (some 0) with kind := .array 6 .byte, interfaces := #[4, 5], accessFlags := 1041 }

/-- the primitive int -/
def k8 : Class := { plain "int" none with kind := .primitive 'I', accessFlags := 0x411 }
/-- [I -/
def k9 : Class := { plain "[I" (some 0) with kind := .array 8 .int, interfaces := #[4, 5], accessFlags := 1041 }

def heap : Heap := #[]
def classes : Array Class := #[k0, k1, k2, k3, k4, k5, k6, k7, k8, k9]
def interned : List (Array UInt16 × Addr) := []
def slotsUsed : Nat := 0
def theMethod : MethodId := ⟨1, 1⟩
def args0 : Array Value := #[.int 5, .int 5]
def aboutOver (below : List Frame) : State where
  vm := { classes := classes, interned := interned.toArray }
  heap := heap
  slotsUsed := slotsUsed
  threads := #[{ frames := .invoking theMethod args0 :: below }]
def below0 : List Frame := [.native { method := ⟨0, 0⟩, args := #[] }]
def about1 : State := aboutOver below0
def p0 : Program := .bare "" "" ""
def e0 : Env := launch0.env 0 0 0
theorem w_frames : about1.frames = Frame.invoking theMethod args0 :: below0 := rfl
set_option maxRecDepth 65536 in
theorem w_args : argsFit about1.vm theMethod args0 = true := by decide +kernel
set_option maxRecDepth 65536 in
theorem w_heap : heapFits about1 = true := by decide +kernel
set_option maxRecDepth 65536 in
theorem w_runnable : about1.curStatus? = some .runnable := by decide +kernel
set_option maxRecDepth 65536 in
theorem w_alone : about1.alone = true := by decide +kernel
set_option maxRecDepth 65536 in
theorem w_named : about1.methodNamed? x = some theMethod := by decide +kernel
set_option maxRecDepth 65536 in
theorem w_hears : about1.hears theMethod below0 = true := by decide +kernel
set_option maxRecDepth 65536 in
theorem w_ripe : about1.ripe theMethod args0 below0 = true := by decide +kernel
theorem w_running : about1.status = .running := rfl
set_option maxRecDepth 65536 in
theorem w_room : about1.hasRoom e0.platform room_1 = true :=
  launch0.hasRoom_least _ room_1 (by decide +kernel) (by decide +kernel) (by decide +kernel) (by decide +kernel) (by decide +kernel) (by decide +kernel)
theorem allAtoms_all (ts : List Jvm.Cond) (a : Array Jvm.Value) (st : Jvm.State) : (allAtoms ts).before a st = ts.all (fun c => c.before a st) := by
  induction ts with
  | nil => rfl
  | cons c t ih =>
    show (Jvm.Cond.and c (allAtoms t)).before a st = _
    rw [Jvm.Cond.before_and, ih, List.all_cons]
def words1 : List Jvm.Cond := Jvm.Cond.code x code maxLocals ret :: tables_1
/-- a 'code' word, met by the world's own term for the bytes: nothing is compared byte by byte -/
theorem code_word {y : MethodName} {bytes : ByteArray} {mx : Nat} {rt : Option FieldType} {a : Array Value} {s : State} {m : MethodId} {meth : Method} {c : Code} (h1 : s.methodNamed? y = some m) (h2 : s.vm.method? m = some meth) (h3 : meth.code = some c) (h4 : c.code = bytes)
    (h5 : (c.maxLocals == mx && c.exceptionTable.isEmpty && decide (c.maxStack ≤ mostOperands) && decide (meth.sig.returnType = rt) && !meth.locks && decide (parseMethodDescriptor y.desc = some meth.sig)) = true) : (Jvm.Cond.code y bytes mx rt).before a s = true := by
  simp only [Bool.and_eq_true, beq_iff_eq, Bool.not_eq_true', decide_eq_true_eq] at h5
  obtain ⟨⟨⟨⟨⟨g1, g2⟩, g3⟩, g4⟩, g5⟩, g6⟩ := h5
  simp [Cond.before, Cond.holds, Cond.value, h1, h2, h3, h4, g1, g2, g3, g4, g5, g6]
def isCode : Jvm.Cond → Bool
  | .code _ _ _ _ => true
  | _ => false
theorem all_split {L : List Jvm.Cond} {P : Jvm.Cond → Bool} (h1 : L.all (fun c => isCode c || P c) = true) (h2 : ∀ c ∈ L.filter isCode, P c = true) : L.all P = true := by
  refine List.all_eq_true.mpr fun c hc => ?_
  have h := List.all_eq_true.mp h1 c hc
  rcases Bool.eq_false_or_eq_true (isCode c) with hi | hi
  · exact h2 c (List.mem_filter.mpr ⟨hc, hi⟩)
  · simpa [hi] using h
set_option maxRecDepth 65536 in
theorem w_c0 : (Jvm.Cond.code x code maxLocals ret).before args0 about1 = true := code_word (m := ⟨1, 1⟩) (meth := k1m1) (c := k1c1) (by decide +kernel) rfl rfl rfl (by decide +kernel)
set_option maxRecDepth 65536 in
theorem w_c1 : (Jvm.Cond.code ({ cls := "com/example/pointcode/pointcode/isup/Cause", name := "<init>", desc := "(II)V" } : Jvm.MethodName) prog_45_method_1_code (3 : Nat) (Option.none : Option Jvm.ClassFile.FieldType)).before args0 about1 = true := code_word (m := ⟨3, 0⟩) (meth := k3m0) (c := k3c0) (by decide +kernel) rfl rfl rfl (by decide +kernel)
set_option maxRecDepth 65536 in
theorem w_c2 : (Jvm.Cond.code ({ cls := "java/lang/Record", name := "<init>", desc := "()V" } : Jvm.MethodName) jdk_30_method_1_code (1 : Nat) (Option.none : Option Jvm.ClassFile.FieldType)).before args0 about1 = true := code_word (m := ⟨2, 0⟩) (meth := k2m0) (c := k2c0) (by decide +kernel) rfl rfl rfl (by decide +kernel)
set_option maxRecDepth 65536 in
theorem w_c3 : (Jvm.Cond.code ({ cls := "java/lang/Object", name := "<init>", desc := "()V" } : Jvm.MethodName) object_method_1_code (1 : Nat) (Option.none : Option Jvm.ClassFile.FieldType)).before args0 about1 = true := code_word (m := ⟨0, 0⟩) (meth := k0m0) (c := k0c0) (by decide +kernel) rfl rfl rfl (by decide +kernel)
set_option maxRecDepth 65536 in
theorem w_c4 : (Jvm.Cond.code ({ cls := "com/example/pointcode/pointcode/isup/Cause", name := "encode", desc := "()[B" } : Jvm.MethodName) prog_45_method_2_code (1 : Nat) (Option.some (Jvm.ClassFile.FieldType.array Jvm.ClassFile.FieldType.byte))).before args0 about1 = true := code_word (m := ⟨3, 1⟩) (meth := k3m1) (c := k3c1) (by decide +kernel) rfl rfl rfl (by decide +kernel)
def codes1 : List Jvm.Cond := [Jvm.Cond.code x code maxLocals ret, Jvm.Cond.code ({ cls := "com/example/pointcode/pointcode/isup/Cause", name := "<init>", desc := "(II)V" } : Jvm.MethodName) prog_45_method_1_code (3 : Nat) (Option.none : Option Jvm.ClassFile.FieldType), Jvm.Cond.code ({ cls := "java/lang/Record", name := "<init>", desc := "()V" } : Jvm.MethodName) jdk_30_method_1_code (1 : Nat) (Option.none : Option Jvm.ClassFile.FieldType), Jvm.Cond.code ({ cls := "java/lang/Object", name := "<init>", desc := "()V" } : Jvm.MethodName) object_method_1_code (1 : Nat) (Option.none : Option Jvm.ClassFile.FieldType), Jvm.Cond.code ({ cls := "com/example/pointcode/pointcode/isup/Cause", name := "encode", desc := "()[B" } : Jvm.MethodName) prog_45_method_2_code (1 : Nat) (Option.some (Jvm.ClassFile.FieldType.array Jvm.ClassFile.FieldType.byte))]
set_option maxRecDepth 65536 in
theorem codes_eq : words1.filter isCode = codes1 := rfl
theorem w_codes : ∀ c ∈ words1.filter isCode, c.before args0 about1 = true := by
  rw [codes_eq]
  intro c hc
  simp only [codes1, List.mem_cons, List.not_mem_nil, or_false] at hc
  rcases hc with rfl | rfl | rfl | rfl | rfl
  · exact w_c0
  · exact w_c1
  · exact w_c2
  · exact w_c3
  · exact w_c4
set_option maxRecDepth 65536 in
theorem w_t1 : (words1.take 24).all (fun c => isCode c || c.before args0 about1) = true := by decide +kernel
set_option maxRecDepth 65536 in
theorem w_t2 : (words1.drop 24).all (fun c => isCode c || c.before args0 about1) = true := by decide +kernel
theorem w_tables : (allAtoms (Jvm.Cond.code x code maxLocals ret :: tables_1)).before args0 about1 = true := by
  rw [allAtoms_all]
  show words1.all (fun c => c.before args0 about1) = true
  refine all_split ?_ w_codes
  rw [← List.take_append_drop 24 words1, List.all_append, w_t1, w_t2]
  rfl
set_option maxRecDepth 65536 in
theorem w_case : (Jvm.Cond.and given_1 narrow_1).before args0 about1 = true := by decide +kernel
theorem w_applies : (headSpec (Jvm.Cond.code x code maxLocals ret :: tables_1) room_1).applies x e0.platform about1 = true :=
  (Spec.applies_iff w_frames).mpr ⟨w_running, w_runnable, w_alone, w_named, w_hears, w_ripe, w_room, w_tables⟩
theorem atStart : AtStart classFile x code maxLocals ret World_1 tables_1 room_1 Calls_1 rest_1 Pre_1 launch0 p0 e0 about1 theMethod args0 below0 :=
  ⟨lists_1, trivial, launch0.admits_env _ _ _, launch0.least_env, fairChoices_fair.cas, fairChoices_fair.clock, w_frames, w_args, w_heap, w_applies, trivial, trivial, w_case⟩
end start1
theorem witness_1 : WitnessClaimed_1 := ⟨start1.p0, start1.e0, start1.about1, start1.theMethod, start1.args0, start1.below0, start1.atStart⟩
end Jvm.Pilot.@@N@@
