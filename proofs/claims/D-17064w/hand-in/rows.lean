section
-- ===== PART A: goes FIRST, ahead of the names: the tables' words, and 'selects' of the private methods out of them =====
/-- a private method of a class that the tables say can be made, by its rows of tables_1 -/
def lw_okq (q : MethodName × Nat) : Prop := (q.1.cls ≠ "java/lang/invoke/MethodHandle" ∧ q.1.cls ≠ "java/lang/invoke/VarHandle") ∧ Cond.instantiable q.1.cls q.2 ∈ tables_1 ∧ Cond.privateMethod q.1 ∈ tables_1 ∧ Cond.instanceMethod q.1 ∈ tables_1
set_option maxRecDepth 100000
theorem lw_p0 : lw_okq (⟨"java/lang/Throwable", "fillInStackTrace", "(I)Ljava/lang/Throwable;"⟩, 6) := ⟨⟨by decide +kernel, by decide +kernel⟩, List.mem_of_getElem? (i := 81) rfl, List.mem_of_getElem? (i := 79) rfl, List.mem_of_getElem? (i := 80) rfl⟩
theorem lw_p1 : lw_okq (⟨"FormatWordModel", "nearest", "(II)I"⟩, 0) := ⟨⟨by decide +kernel, by decide +kernel⟩, List.mem_of_getElem? (i := 139) rfl, List.mem_of_getElem? (i := 154) rfl, List.mem_of_getElem? (i := 155) rfl⟩
def lw_privs_1 : List (MethodName × Nat) := [(⟨"java/lang/Throwable", "fillInStackTrace", "(I)Ljava/lang/Throwable;"⟩, 6), (⟨"FormatWordModel", "nearest", "(II)I"⟩, 0)]
theorem lw_r1 : ∀ q ∈ lw_privs_1, lw_okq q := List.forall_mem_cons.mpr ⟨lw_p0, List.forall_mem_cons.mpr ⟨lw_p1, fun _ h => absurd h List.not_mem_nil⟩⟩
def lw_privs : List (MethodName × Nat) := lw_privs_1
def lw_tbl : List Cond := k2_sels lw_privs ++ tables_1
theorem lw_privs_ok : ∀ q ∈ lw_privs, lw_okq q := lw_r1
-- ===== ONE list of words for every method: the tables' words that hold all through a run =====
def lw_all : List Cond := lw_tbl.filter goodWord
/-- a word of the tables by its place: claim/WORDS.tsv -/
theorem lw_w {w : Cond} (i : Nat) (h : lw_tbl[i]? = some w) (g : goodWord w = true) : w ∈ lw_all := List.mem_filter.mpr ⟨List.mem_of_getElem? h, g⟩
theorem lw_all_tbl {w : Cond} (h : w ∈ lw_all) : w ∈ lw_tbl := (List.mem_filter.mp h).1
theorem lw_self : GoodIn lw_all lw_all := fun w h => ⟨h, good_of_word (List.mem_filter.mp h).2⟩
/-- a class's field words, by their places -/
theorem lw_in (ws : List Cond) (ps : List Nat) (hp : ws = ps.filterMap (fun i => lw_tbl[i]?)) (hg : ws.all goodWord = true) : ∀ w ∈ ws, w ∈ lw_all := by
  intro w h
  have h1 := List.all_eq_true.mp hg w h
  rw [hp] at h
  obtain ⟨i, -, hi⟩ := List.mem_filterMap.mp h
  exact lw_w i hi h1
/-- the words of a contract for the method y with code b, L locals, answer r -/
abbrev ws_ (y : MethodName) (b : ByteArray) (L : Nat) (r : Option FieldType) : List Cond := Cond.code y b L r :: lw_all
theorem lw_meth {y : MethodName} {b : ByteArray} {L : Nat} {r : Option FieldType} (h : Cond.code y b L r ∈ lw_all) : GoodIn lw_all (ws_ y b L r) := by
  intro w hw
  rcases List.mem_cons.mp hw with e | e
  · rw [e]
    exact lw_self _ h
  · exact lw_self _ e
theorem lw_app {a c : List Cond} (ha : ∀ w ∈ a, w ∈ lw_all) (hc : GoodIn lw_all c) : GoodIn lw_all (a ++ c) := by
  intro w hw
  rcases List.mem_append.mp hw with e | e
  · exact lw_self w (ha w e)
  · exact hc w e
/-- what a call through an object asks: cwV n hts (lw_V ..) -/
theorem lw_V {own : String} {idx : Nat} {C : String} {y : MethodName} {b : ByteArray} {L : Nat} {r : Option FieldType} (h1 : Cond.methodLink own idx y ∈ lw_all) (h2 : Cond.instanceMethod y ∈ lw_all) (h3 : Cond.selects C y y ∈ lw_all) (h4 : Cond.initialized C ∈ lw_all) (h5 : Cond.code y b L r ∈ lw_all) : GoodIn lw_all (wsV own idx C y (ws_ y b L r)) := by
  refine lw_app ?_ (lw_meth h5)
  intro w hw
  simp only [List.mem_cons, List.not_mem_nil, or_false] at hw
  rcases hw with e | e | e | e
  · rw [e]; exact h1
  · rw [e]; exact h2
  · rw [e]; exact h3
  · rw [e]; exact h4
/-- what a static call asks: va_cwS n hts (lw_S ..) -/
theorem lw_S {own : String} {idx : Nat} {y : MethodName} {b : ByteArray} {L : Nat} {r : Option FieldType} (h1 : Cond.methodLink own idx y ∈ lw_all) (h2 : Cond.static y ∈ lw_all) (h3 : Cond.initialized y.cls ∈ lw_all) (h4 : Cond.code y b L r ∈ lw_all) : GoodIn lw_all (va_wsS own idx y (ws_ y b L r)) := by
  refine lw_app ?_ (lw_meth h4)
  intro w hw
  simp only [List.mem_cons, List.not_mem_nil, or_false] at hw
  rcases hw with e | e | e
  · rw [e]; exact h1
  · rw [e]; exact h2
  · rw [e]; exact h3
/-- the words of a contract for a method WITH HANDLERS (hh: its table) -/
abbrev wsW_ (y : MethodName) (b : ByteArray) (L : Nat) (r : Option FieldType) (hh : List (Nat × Nat × Nat × Nat)) : List Cond := Cond.codeWith y b L r hh :: lw_all
theorem lw_methW {y : MethodName} {b : ByteArray} {L : Nat} {r : Option FieldType} {hh : List (Nat × Nat × Nat × Nat)} (h : Cond.codeWith y b L r hh ∈ lw_all) : GoodIn lw_all (wsW_ y b L r hh) := by
  intro w hw
  rcases List.mem_cons.mp hw with e | e
  · rw [e]
    exact lw_self _ h
  · exact lw_self _ e
/-- any list of words by their places (lw_in), good -/
theorem lw_good {ws : List Cond} (h : ∀ w ∈ ws, w ∈ lw_all) : GoodIn lw_all ws := fun w hw => lw_self w (h w hw)
/-- what a call of a method with handlers asks: vx_cwVW n hts (lw_VW ..), vx_cwSW n hts (lw_SW ..) -/
theorem lw_VW {own : String} {idx : Nat} {C : String} {y : MethodName} {b : ByteArray} {L : Nat} {r : Option FieldType} {hh : List (Nat × Nat × Nat × Nat)} (h1 : Cond.methodLink own idx y ∈ lw_all) (h2 : Cond.instanceMethod y ∈ lw_all) (h3 : Cond.selects C y y ∈ lw_all) (h4 : Cond.initialized C ∈ lw_all) (h5 : Cond.codeWith y b L r hh ∈ lw_all) : GoodIn lw_all (wsV own idx C y (wsW_ y b L r hh)) := by
  refine lw_app ?_ (lw_methW h5)
  intro w hw
  simp only [List.mem_cons, List.not_mem_nil, or_false] at hw
  rcases hw with e | e | e | e
  · rw [e]; exact h1
  · rw [e]; exact h2
  · rw [e]; exact h3
  · rw [e]; exact h4
theorem lw_SW {own : String} {idx : Nat} {y : MethodName} {b : ByteArray} {L : Nat} {r : Option FieldType} {hh : List (Nat × Nat × Nat × Nat)} (h1 : Cond.methodLink own idx y ∈ lw_all) (h2 : Cond.static y ∈ lw_all) (h3 : Cond.initialized y.cls ∈ lw_all) (h4 : Cond.codeWith y b L r hh ∈ lw_all) : GoodIn lw_all (va_wsS own idx y (wsW_ y b L r hh)) := by
  refine lw_app ?_ (lw_methW h4)
  intro w hw
  simp only [List.mem_cons, List.not_mem_nil, or_false] at hw
  rcases hw with e | e | e
  · rw [e]; exact h1
  · rw [e]; exact h2
  · rw [e]; exact h3
/-- a word by its place in its run of the tables -/
theorem lw_at {r : List Cond} (hr : ∀ w ∈ r, w ∈ lw_tbl) {w : Cond} (i : Nat) (h : r[i]? = some w) : w ∈ lw_tbl := hr w (List.mem_of_getElem? h)
theorem lw_g {w : Cond} (h : w ∈ lw_tbl) (g : goodWord w = true) : w ∈ lw_all := List.mem_filter.mpr ⟨h, g⟩
theorem lw_ms : ∀ w ∈ k2_sels lw_privs, w ∈ lw_tbl := fun w h => show w ∈ k2_sels lw_privs ++ tables_1 from List.mem_append_left _ h
theorem lw_m0 : ∀ w ∈ tables_1, w ∈ lw_tbl := fun w h => show w ∈ k2_sels lw_privs ++ tables_1 from List.mem_append_right (k2_sels lw_privs) h
theorem qs0 : (Cond.selects "java/lang/Throwable" ⟨"java/lang/Throwable", "fillInStackTrace", "(I)Ljava/lang/Throwable;"⟩ ⟨"java/lang/Throwable", "fillInStackTrace", "(I)Ljava/lang/Throwable;"⟩) ∈ lw_all := lw_g (lw_at lw_ms 0 rfl) rfl
theorem qs1 : (Cond.selects "FormatWordModel" ⟨"FormatWordModel", "nearest", "(II)I"⟩ ⟨"FormatWordModel", "nearest", "(II)I"⟩) ∈ lw_all := lw_g (lw_at lw_ms 1 rfl) rfl
end
section
/-! names of the classes, by claim/names; the decode rows by the kernel -/
set_option maxRecDepth 100000
theorem q165 : (Jvm.Cond.arrayClass Jvm.ClassFile.FieldType.int) ∈ lw_all := lw_g (lw_at lw_m0 163 rfl) rfl
theorem q166 : (Jvm.Cond.arrayOver (Jvm.ClassFile.FieldType.array Jvm.ClassFile.FieldType.int)) ∈ lw_tbl := lw_at lw_m0 164 rfl
theorem q2 : (Jvm.Cond.initialized "FormatWordLaw") ∈ lw_all := lw_g (lw_at lw_m0 0 rfl) rfl
theorem q13 : (Jvm.Cond.classLink "FormatWordLaw" (7 : Nat) "FormatWord") ∈ lw_all := lw_g (lw_at lw_m0 11 rfl) rfl
theorem q15 : (Jvm.Cond.methodLink "FormatWordLaw" (9 : Nat) ({ cls := "FormatWord", name := "<init>", desc := "()V" } : Jvm.MethodName)) ∈ lw_all := lw_g (lw_at lw_m0 13 rfl) rfl
theorem q22 : (Jvm.Cond.methodLink "FormatWordLaw" (13 : Nat) ({ cls := "FormatWord", name := "read", desc := "(II)I" } : Jvm.MethodName)) ∈ lw_all := lw_g (lw_at lw_m0 20 rfl) rfl
theorem q135 : (Jvm.Cond.methodLink "FormatWordLaw" (18 : Nat) ({ cls := "FormatWord", name := "apart", desc := "(II)I" } : Jvm.MethodName)) ∈ lw_all := lw_g (lw_at lw_m0 133 rfl) rfl
theorem q140 : (Jvm.Cond.classLink "FormatWordLaw" (10 : Nat) "FormatWordModel") ∈ lw_all := lw_g (lw_at lw_m0 138 rfl) rfl
theorem q142 : (Jvm.Cond.methodLink "FormatWordLaw" (12 : Nat) ({ cls := "FormatWordModel", name := "<init>", desc := "()V" } : Jvm.MethodName)) ∈ lw_all := lw_g (lw_at lw_m0 140 rfl) rfl
theorem q147 : (Jvm.Cond.methodLink "FormatWordLaw" (21 : Nat) ({ cls := "FormatWordModel", name := "apart", desc := "(II)I" } : Jvm.MethodName)) ∈ lw_all := lw_g (lw_at lw_m0 145 rfl) rfl
theorem q151 : (Jvm.Cond.methodLink "FormatWordLaw" (17 : Nat) ({ cls := "FormatWordModel", name := "read", desc := "(II)I" } : Jvm.MethodName)) ∈ lw_all := lw_g (lw_at lw_m0 149 rfl) rfl
/-! java/lang/Object -/
def RJ5 : String := "java/lang/Object"
abbrev cJ5_init : ByteArray := object_method_1_code
def yJ5_init : MethodName := ⟨RJ5, "<init>", "()V"⟩
theorem dJ5_init_0 : decode cJ5_init 0 = .ok (.return_, 1) := by decide +kernel
theorem q19 : (Jvm.Cond.instanceMethod ({ cls := "java/lang/Object", name := "<init>", desc := "()V" } : Jvm.MethodName)) ∈ lw_all := lw_g (lw_at lw_m0 17 rfl) rfl
theorem q20 : (Jvm.Cond.code ({ cls := "java/lang/Object", name := "<init>", desc := "()V" } : Jvm.MethodName) object_method_1_code (1 : Nat) (Option.none : Option Jvm.ClassFile.FieldType)) ∈ lw_all := lw_g (lw_at lw_m0 18 rfl) rfl
/-! java/lang/Integer -/
def RJ4 : String := "java/lang/Integer"
abbrev cJ4_bitCount : ByteArray := prog_9_method_49_code
def yJ4_bitCount : MethodName := ⟨RJ4, "bitCount", "(I)I"⟩
theorem dJ4_bitCount_0 : decode cJ4_bitCount 0 = .ok (.iload_n 0, 1) := by decide +kernel
theorem dJ4_bitCount_1 : decode cJ4_bitCount 1 = .ok (.iload_n 0, 1) := by decide +kernel
theorem dJ4_bitCount_2 : decode cJ4_bitCount 2 = .ok (.iconst 1, 1) := by decide +kernel
theorem dJ4_bitCount_3 : decode cJ4_bitCount 3 = .ok (.iushr, 1) := by decide +kernel
theorem dJ4_bitCount_4 : decode cJ4_bitCount 4 = .ok (.ldc_w 265, 3) := by decide +kernel
theorem dJ4_bitCount_7 : decode cJ4_bitCount 7 = .ok (.iand, 1) := by decide +kernel
theorem dJ4_bitCount_8 : decode cJ4_bitCount 8 = .ok (.isub, 1) := by decide +kernel
theorem dJ4_bitCount_9 : decode cJ4_bitCount 9 = .ok (.istore_n 0, 1) := by decide +kernel
theorem dJ4_bitCount_10 : decode cJ4_bitCount 10 = .ok (.iload_n 0, 1) := by decide +kernel
theorem dJ4_bitCount_11 : decode cJ4_bitCount 11 = .ok (.ldc_w 266, 3) := by decide +kernel
theorem dJ4_bitCount_14 : decode cJ4_bitCount 14 = .ok (.iand, 1) := by decide +kernel
theorem dJ4_bitCount_15 : decode cJ4_bitCount 15 = .ok (.iload_n 0, 1) := by decide +kernel
theorem dJ4_bitCount_16 : decode cJ4_bitCount 16 = .ok (.iconst 2, 1) := by decide +kernel
theorem dJ4_bitCount_17 : decode cJ4_bitCount 17 = .ok (.iushr, 1) := by decide +kernel
theorem dJ4_bitCount_18 : decode cJ4_bitCount 18 = .ok (.ldc_w 266, 3) := by decide +kernel
theorem dJ4_bitCount_21 : decode cJ4_bitCount 21 = .ok (.iand, 1) := by decide +kernel
theorem dJ4_bitCount_22 : decode cJ4_bitCount 22 = .ok (.iadd, 1) := by decide +kernel
theorem dJ4_bitCount_23 : decode cJ4_bitCount 23 = .ok (.istore_n 0, 1) := by decide +kernel
theorem dJ4_bitCount_24 : decode cJ4_bitCount 24 = .ok (.iload_n 0, 1) := by decide +kernel
theorem dJ4_bitCount_25 : decode cJ4_bitCount 25 = .ok (.iload_n 0, 1) := by decide +kernel
theorem dJ4_bitCount_26 : decode cJ4_bitCount 26 = .ok (.iconst 4, 1) := by decide +kernel
theorem dJ4_bitCount_27 : decode cJ4_bitCount 27 = .ok (.iushr, 1) := by decide +kernel
theorem dJ4_bitCount_28 : decode cJ4_bitCount 28 = .ok (.iadd, 1) := by decide +kernel
theorem dJ4_bitCount_29 : decode cJ4_bitCount 29 = .ok (.ldc_w 267, 3) := by decide +kernel
theorem dJ4_bitCount_32 : decode cJ4_bitCount 32 = .ok (.iand, 1) := by decide +kernel
theorem dJ4_bitCount_33 : decode cJ4_bitCount 33 = .ok (.istore_n 0, 1) := by decide +kernel
theorem dJ4_bitCount_34 : decode cJ4_bitCount 34 = .ok (.iload_n 0, 1) := by decide +kernel
theorem dJ4_bitCount_35 : decode cJ4_bitCount 35 = .ok (.iload_n 0, 1) := by decide +kernel
theorem dJ4_bitCount_36 : decode cJ4_bitCount 36 = .ok (.bipush 8, 2) := by decide +kernel
theorem dJ4_bitCount_38 : decode cJ4_bitCount 38 = .ok (.iushr, 1) := by decide +kernel
theorem dJ4_bitCount_39 : decode cJ4_bitCount 39 = .ok (.iadd, 1) := by decide +kernel
theorem dJ4_bitCount_40 : decode cJ4_bitCount 40 = .ok (.istore_n 0, 1) := by decide +kernel
theorem dJ4_bitCount_41 : decode cJ4_bitCount 41 = .ok (.iload_n 0, 1) := by decide +kernel
theorem dJ4_bitCount_42 : decode cJ4_bitCount 42 = .ok (.iload_n 0, 1) := by decide +kernel
theorem dJ4_bitCount_43 : decode cJ4_bitCount 43 = .ok (.bipush 16, 2) := by decide +kernel
theorem dJ4_bitCount_45 : decode cJ4_bitCount 45 = .ok (.iushr, 1) := by decide +kernel
theorem dJ4_bitCount_46 : decode cJ4_bitCount 46 = .ok (.iadd, 1) := by decide +kernel
theorem dJ4_bitCount_47 : decode cJ4_bitCount 47 = .ok (.istore_n 0, 1) := by decide +kernel
theorem dJ4_bitCount_48 : decode cJ4_bitCount 48 = .ok (.iload_n 0, 1) := by decide +kernel
theorem dJ4_bitCount_49 : decode cJ4_bitCount 49 = .ok (.bipush 63, 2) := by decide +kernel
theorem dJ4_bitCount_51 : decode cJ4_bitCount 51 = .ok (.iand, 1) := by decide +kernel
theorem dJ4_bitCount_52 : decode cJ4_bitCount 52 = .ok (.ireturn, 1) := by decide +kernel
theorem q12 : (Jvm.Cond.initialized "java/lang/Integer") ∈ lw_all := lw_g (lw_at lw_m0 10 rfl) rfl
theorem q118 : (Jvm.Cond.static ({ cls := "java/lang/Integer", name := "bitCount", desc := "(I)I" } : Jvm.MethodName)) ∈ lw_all := lw_g (lw_at lw_m0 116 rfl) rfl
theorem q119 : (Jvm.Cond.code ({ cls := "java/lang/Integer", name := "bitCount", desc := "(I)I" } : Jvm.MethodName) prog_9_method_49_code (1 : Nat) (Option.some Jvm.ClassFile.FieldType.int)) ∈ lw_all := lw_g (lw_at lw_m0 117 rfl) rfl
theorem q120 : (Jvm.Cond.constant "java/lang/Integer" (265 : Nat) (1431655765 : Int32)) ∈ lw_all := lw_g (lw_at lw_m0 118 rfl) rfl
theorem q121 : (Jvm.Cond.constant "java/lang/Integer" (266 : Nat) (858993459 : Int32)) ∈ lw_all := lw_g (lw_at lw_m0 119 rfl) rfl
theorem q122 : (Jvm.Cond.constant "java/lang/Integer" (267 : Nat) (252645135 : Int32)) ∈ lw_all := lw_g (lw_at lw_m0 120 rfl) rfl
/-! ErrorCorrectionLevel -/
def RX3 : String := "ErrorCorrectionLevel"
abbrev cX3_forBits : ByteArray := prog_1_method_5_code
def yX3_forBits : MethodName := ⟨RX3, "forBits", "(I)LErrorCorrectionLevel;"⟩
theorem dX3_forBits_0 : decode cX3_forBits 0 = .ok (.iload_n 0, 1) := by decide +kernel
theorem dX3_forBits_1 : decode cX3_forBits 1 = .ok (.ifCond .lt 11, 3) := by decide +kernel
theorem dX3_forBits_4 : decode cX3_forBits 4 = .ok (.iload_n 0, 1) := by decide +kernel
theorem dX3_forBits_5 : decode cX3_forBits 5 = .ok (.getstatic 39, 3) := by decide +kernel
theorem dX3_forBits_8 : decode cX3_forBits 8 = .ok (.arraylength, 1) := by decide +kernel
theorem dX3_forBits_9 : decode cX3_forBits 9 = .ok (.if_icmp .lt 11, 3) := by decide +kernel
theorem dX3_forBits_12 : decode cX3_forBits 12 = .ok (.new 42, 3) := by decide +kernel
theorem dX3_forBits_15 : decode cX3_forBits 15 = .ok (.dup, 1) := by decide +kernel
theorem dX3_forBits_16 : decode cX3_forBits 16 = .ok (.invokespecial 44, 3) := by decide +kernel
theorem dX3_forBits_19 : decode cX3_forBits 19 = .ok (.athrow, 1) := by decide +kernel
theorem dX3_forBits_20 : decode cX3_forBits 20 = .ok (.getstatic 39, 3) := by decide +kernel
theorem dX3_forBits_23 : decode cX3_forBits 23 = .ok (.iload_n 0, 1) := by decide +kernel
theorem dX3_forBits_24 : decode cX3_forBits 24 = .ok (.aaload, 1) := by decide +kernel
theorem dX3_forBits_25 : decode cX3_forBits 25 = .ok (.areturn, 1) := by decide +kernel
abbrev cX3_getBits : ByteArray := prog_1_method_4_code
def yX3_getBits : MethodName := ⟨RX3, "getBits", "()I"⟩
theorem dX3_getBits_0 : decode cX3_getBits 0 = .ok (.aload_n 0, 1) := by decide +kernel
theorem dX3_getBits_1 : decode cX3_getBits 1 = .ok (.getfield 35, 3) := by decide +kernel
theorem dX3_getBits_4 : decode cX3_getBits 4 = .ok (.ireturn, 1) := by decide +kernel
theorem q7 : (Jvm.Cond.initialized "ErrorCorrectionLevel") ∈ lw_all := lw_g (lw_at lw_m0 5 rfl) rfl
theorem q42 : (Jvm.Cond.static ({ cls := "ErrorCorrectionLevel", name := "forBits", desc := "(I)LErrorCorrectionLevel;" } : Jvm.MethodName)) ∈ lw_all := lw_g (lw_at lw_m0 40 rfl) rfl
theorem q43 : (Jvm.Cond.code ({ cls := "ErrorCorrectionLevel", name := "forBits", desc := "(I)LErrorCorrectionLevel;" } : Jvm.MethodName) prog_1_method_5_code (1 : Nat) (Option.some (Jvm.ClassFile.FieldType.object "ErrorCorrectionLevel"))) ∈ lw_all := lw_g (lw_at lw_m0 41 rfl) rfl
theorem q44 : (Jvm.Cond.fieldLink "ErrorCorrectionLevel" (39 : Nat) "ErrorCorrectionLevel" "FOR_BITS" "[LErrorCorrectionLevel;") ∈ lw_all := lw_g (lw_at lw_m0 42 rfl) rfl
theorem q45 : (Jvm.Cond.laysStatic "ErrorCorrectionLevel" "FOR_BITS" "[LErrorCorrectionLevel;") ∈ lw_tbl := lw_at lw_m0 43 rfl
theorem q46 : (Jvm.Cond.classLink "ErrorCorrectionLevel" (42 : Nat) "java/lang/IllegalArgumentException") ∈ lw_all := lw_g (lw_at lw_m0 44 rfl) rfl
theorem q85 : (Jvm.Cond.methodLink "ErrorCorrectionLevel" (44 : Nat) ({ cls := "java/lang/IllegalArgumentException", name := "<init>", desc := "()V" } : Jvm.MethodName)) ∈ lw_all := lw_g (lw_at lw_m0 83 rfl) rfl
theorem q128 : (Jvm.Cond.instanceMethod ({ cls := "ErrorCorrectionLevel", name := "getBits", desc := "()I" } : Jvm.MethodName)) ∈ lw_all := lw_g (lw_at lw_m0 126 rfl) rfl
theorem q129 : (Jvm.Cond.selects "ErrorCorrectionLevel" ({ cls := "ErrorCorrectionLevel", name := "getBits", desc := "()I" } : Jvm.MethodName) ({ cls := "ErrorCorrectionLevel", name := "getBits", desc := "()I" } : Jvm.MethodName)) ∈ lw_all := lw_g (lw_at lw_m0 127 rfl) rfl
theorem q130 : (Jvm.Cond.code ({ cls := "ErrorCorrectionLevel", name := "getBits", desc := "()I" } : Jvm.MethodName) prog_1_method_4_code (1 : Nat) (Option.some Jvm.ClassFile.FieldType.int)) ∈ lw_all := lw_g (lw_at lw_m0 128 rfl) rfl
theorem q164 : (Jvm.Cond.fieldLink "ErrorCorrectionLevel" (35 : Nat) "ErrorCorrectionLevel" "bits" "I") ∈ lw_all := lw_g (lw_at lw_m0 162 rfl) rfl
theorem q167 : (Jvm.Cond.laysStatic "ErrorCorrectionLevel" "M" "LErrorCorrectionLevel;") ∈ lw_tbl := lw_at lw_m0 165 rfl
theorem q168 : (Jvm.Cond.laysStatic "ErrorCorrectionLevel" "L" "LErrorCorrectionLevel;") ∈ lw_tbl := lw_at lw_m0 166 rfl
theorem q169 : (Jvm.Cond.laysStatic "ErrorCorrectionLevel" "H" "LErrorCorrectionLevel;") ∈ lw_tbl := lw_at lw_m0 167 rfl
theorem q170 : (Jvm.Cond.laysStatic "ErrorCorrectionLevel" "Q" "LErrorCorrectionLevel;") ∈ lw_tbl := lw_at lw_m0 168 rfl
/-! FormatInformation -/
def RX2 : String := "FormatInformation"
def TX2 : u_T := fun k => match k with
  | 0 => ("FormatInformation", "errorCorrectionLevel", "LErrorCorrectionLevel;", true)
  | _ => ("FormatInformation", "dataMask", "B", true)
def tyX2 : Nat → FieldType := fun k => match k with
  | 0 => .object "ErrorCorrectionLevel"
  | _ => .byte
abbrev wsX20 : List Cond := u_ws RX2 TX2 2
theorem nmX2 : ∀ a, a < 2 → ∀ b, b < 2 → a ≠ b → (TX2 a).2.1 ≠ (TX2 b).2.1 := by decide +kernel
theorem tyX2_ok : ∀ k, k < 2 → parseFieldDescriptor (TX2 k).2.2.1 = some (tyX2 k) := by decide +kernel
abbrev cX2_decodeFormatInformation : ByteArray := prog_2_method_3_code
def yX2_decodeFormatInformation : MethodName := ⟨RX2, "decodeFormatInformation", "(II)LFormatInformation;"⟩
theorem dX2_decodeFormatInformation_0 : decode cX2_decodeFormatInformation 0 = .ok (.iload_n 0, 1) := by decide +kernel
theorem dX2_decodeFormatInformation_1 : decode cX2_decodeFormatInformation 1 = .ok (.iload_n 1, 1) := by decide +kernel
theorem dX2_decodeFormatInformation_2 : decode cX2_decodeFormatInformation 2 = .ok (.invokestatic 29, 3) := by decide +kernel
theorem dX2_decodeFormatInformation_5 : decode cX2_decodeFormatInformation 5 = .ok (.astore_n 2, 1) := by decide +kernel
theorem dX2_decodeFormatInformation_6 : decode cX2_decodeFormatInformation 6 = .ok (.aload_n 2, 1) := by decide +kernel
theorem dX2_decodeFormatInformation_7 : decode cX2_decodeFormatInformation 7 = .ok (.ifnull 5, 3) := by decide +kernel
theorem dX2_decodeFormatInformation_10 : decode cX2_decodeFormatInformation 10 = .ok (.aload_n 2, 1) := by decide +kernel
theorem dX2_decodeFormatInformation_11 : decode cX2_decodeFormatInformation 11 = .ok (.areturn, 1) := by decide +kernel
theorem dX2_decodeFormatInformation_12 : decode cX2_decodeFormatInformation 12 = .ok (.iload_n 0, 1) := by decide +kernel
theorem dX2_decodeFormatInformation_13 : decode cX2_decodeFormatInformation 13 = .ok (.sipush 21522, 3) := by decide +kernel
theorem dX2_decodeFormatInformation_16 : decode cX2_decodeFormatInformation 16 = .ok (.ixor, 1) := by decide +kernel
theorem dX2_decodeFormatInformation_17 : decode cX2_decodeFormatInformation 17 = .ok (.iload_n 1, 1) := by decide +kernel
theorem dX2_decodeFormatInformation_18 : decode cX2_decodeFormatInformation 18 = .ok (.sipush 21522, 3) := by decide +kernel
theorem dX2_decodeFormatInformation_21 : decode cX2_decodeFormatInformation 21 = .ok (.ixor, 1) := by decide +kernel
theorem dX2_decodeFormatInformation_22 : decode cX2_decodeFormatInformation 22 = .ok (.invokestatic 29, 3) := by decide +kernel
theorem dX2_decodeFormatInformation_25 : decode cX2_decodeFormatInformation 25 = .ok (.areturn, 1) := by decide +kernel
abbrev cX2_doDecodeFormatInformation : ByteArray := prog_2_method_4_code
def yX2_doDecodeFormatInformation : MethodName := ⟨RX2, "doDecodeFormatInformation", "(II)LFormatInformation;"⟩
theorem dX2_doDecodeFormatInformation_0 : decode cX2_doDecodeFormatInformation 0 = .ok (.ldc 33, 2) := by decide +kernel
theorem dX2_doDecodeFormatInformation_2 : decode cX2_doDecodeFormatInformation 2 = .ok (.istore_n 2, 1) := by decide +kernel
theorem dX2_doDecodeFormatInformation_3 : decode cX2_doDecodeFormatInformation 3 = .ok (.iconst 0, 1) := by decide +kernel
theorem dX2_doDecodeFormatInformation_4 : decode cX2_doDecodeFormatInformation 4 = .ok (.istore_n 3, 1) := by decide +kernel
theorem dX2_doDecodeFormatInformation_5 : decode cX2_doDecodeFormatInformation 5 = .ok (.getstatic 34, 3) := by decide +kernel
theorem dX2_doDecodeFormatInformation_8 : decode cX2_doDecodeFormatInformation 8 = .ok (.astore 4, 2) := by decide +kernel
theorem dX2_doDecodeFormatInformation_10 : decode cX2_doDecodeFormatInformation 10 = .ok (.aload 4, 2) := by decide +kernel
theorem dX2_doDecodeFormatInformation_12 : decode cX2_doDecodeFormatInformation 12 = .ok (.arraylength, 1) := by decide +kernel
theorem dX2_doDecodeFormatInformation_13 : decode cX2_doDecodeFormatInformation 13 = .ok (.istore 5, 2) := by decide +kernel
theorem dX2_doDecodeFormatInformation_15 : decode cX2_doDecodeFormatInformation 15 = .ok (.iconst 0, 1) := by decide +kernel
theorem dX2_doDecodeFormatInformation_16 : decode cX2_doDecodeFormatInformation 16 = .ok (.istore 6, 2) := by decide +kernel
theorem dX2_doDecodeFormatInformation_18 : decode cX2_doDecodeFormatInformation 18 = .ok (.iload 6, 2) := by decide +kernel
theorem dX2_doDecodeFormatInformation_20 : decode cX2_doDecodeFormatInformation 20 = .ok (.iload 5, 2) := by decide +kernel
theorem dX2_doDecodeFormatInformation_22 : decode cX2_doDecodeFormatInformation 22 = .ok (.if_icmp .ge 95, 3) := by decide +kernel
theorem dX2_doDecodeFormatInformation_25 : decode cX2_doDecodeFormatInformation 25 = .ok (.aload 4, 2) := by decide +kernel
theorem dX2_doDecodeFormatInformation_27 : decode cX2_doDecodeFormatInformation 27 = .ok (.iload 6, 2) := by decide +kernel
theorem dX2_doDecodeFormatInformation_29 : decode cX2_doDecodeFormatInformation 29 = .ok (.aaload, 1) := by decide +kernel
theorem dX2_doDecodeFormatInformation_30 : decode cX2_doDecodeFormatInformation 30 = .ok (.astore 7, 2) := by decide +kernel
theorem dX2_doDecodeFormatInformation_32 : decode cX2_doDecodeFormatInformation 32 = .ok (.aload 7, 2) := by decide +kernel
theorem dX2_doDecodeFormatInformation_34 : decode cX2_doDecodeFormatInformation 34 = .ok (.iconst 0, 1) := by decide +kernel
theorem dX2_doDecodeFormatInformation_35 : decode cX2_doDecodeFormatInformation 35 = .ok (.iaload, 1) := by decide +kernel
theorem dX2_doDecodeFormatInformation_36 : decode cX2_doDecodeFormatInformation 36 = .ok (.istore 8, 2) := by decide +kernel
theorem dX2_doDecodeFormatInformation_38 : decode cX2_doDecodeFormatInformation 38 = .ok (.iload 8, 2) := by decide +kernel
theorem dX2_doDecodeFormatInformation_40 : decode cX2_doDecodeFormatInformation 40 = .ok (.iload_n 0, 1) := by decide +kernel
theorem dX2_doDecodeFormatInformation_41 : decode cX2_doDecodeFormatInformation 41 = .ok (.if_icmp .eq 9, 3) := by decide +kernel
theorem dX2_doDecodeFormatInformation_44 : decode cX2_doDecodeFormatInformation 44 = .ok (.iload 8, 2) := by decide +kernel
theorem dX2_doDecodeFormatInformation_46 : decode cX2_doDecodeFormatInformation 46 = .ok (.iload_n 1, 1) := by decide +kernel
theorem dX2_doDecodeFormatInformation_47 : decode cX2_doDecodeFormatInformation 47 = .ok (.if_icmp .ne 15, 3) := by decide +kernel
theorem dX2_doDecodeFormatInformation_50 : decode cX2_doDecodeFormatInformation 50 = .ok (.new 14, 3) := by decide +kernel
theorem dX2_doDecodeFormatInformation_53 : decode cX2_doDecodeFormatInformation 53 = .ok (.dup, 1) := by decide +kernel
theorem dX2_doDecodeFormatInformation_54 : decode cX2_doDecodeFormatInformation 54 = .ok (.aload 7, 2) := by decide +kernel
theorem dX2_doDecodeFormatInformation_56 : decode cX2_doDecodeFormatInformation 56 = .ok (.iconst 1, 1) := by decide +kernel
theorem dX2_doDecodeFormatInformation_57 : decode cX2_doDecodeFormatInformation 57 = .ok (.iaload, 1) := by decide +kernel
theorem dX2_doDecodeFormatInformation_58 : decode cX2_doDecodeFormatInformation 58 = .ok (.invokespecial 38, 3) := by decide +kernel
theorem dX2_doDecodeFormatInformation_61 : decode cX2_doDecodeFormatInformation 61 = .ok (.areturn, 1) := by decide +kernel
theorem dX2_doDecodeFormatInformation_62 : decode cX2_doDecodeFormatInformation 62 = .ok (.iload_n 0, 1) := by decide +kernel
theorem dX2_doDecodeFormatInformation_63 : decode cX2_doDecodeFormatInformation 63 = .ok (.iload 8, 2) := by decide +kernel
theorem dX2_doDecodeFormatInformation_65 : decode cX2_doDecodeFormatInformation 65 = .ok (.invokestatic 41, 3) := by decide +kernel
theorem dX2_doDecodeFormatInformation_68 : decode cX2_doDecodeFormatInformation 68 = .ok (.istore 9, 2) := by decide +kernel
theorem dX2_doDecodeFormatInformation_70 : decode cX2_doDecodeFormatInformation 70 = .ok (.iload 9, 2) := by decide +kernel
theorem dX2_doDecodeFormatInformation_72 : decode cX2_doDecodeFormatInformation 72 = .ok (.iload_n 2, 1) := by decide +kernel
theorem dX2_doDecodeFormatInformation_73 : decode cX2_doDecodeFormatInformation 73 = .ok (.if_icmp .ge 11, 3) := by decide +kernel
theorem dX2_doDecodeFormatInformation_76 : decode cX2_doDecodeFormatInformation 76 = .ok (.aload 7, 2) := by decide +kernel
theorem dX2_doDecodeFormatInformation_78 : decode cX2_doDecodeFormatInformation 78 = .ok (.iconst 1, 1) := by decide +kernel
theorem dX2_doDecodeFormatInformation_79 : decode cX2_doDecodeFormatInformation 79 = .ok (.iaload, 1) := by decide +kernel
theorem dX2_doDecodeFormatInformation_80 : decode cX2_doDecodeFormatInformation 80 = .ok (.istore_n 3, 1) := by decide +kernel
theorem dX2_doDecodeFormatInformation_81 : decode cX2_doDecodeFormatInformation 81 = .ok (.iload 9, 2) := by decide +kernel
theorem dX2_doDecodeFormatInformation_83 : decode cX2_doDecodeFormatInformation 83 = .ok (.istore_n 2, 1) := by decide +kernel
theorem dX2_doDecodeFormatInformation_84 : decode cX2_doDecodeFormatInformation 84 = .ok (.iload_n 0, 1) := by decide +kernel
theorem dX2_doDecodeFormatInformation_85 : decode cX2_doDecodeFormatInformation 85 = .ok (.iload_n 1, 1) := by decide +kernel
theorem dX2_doDecodeFormatInformation_86 : decode cX2_doDecodeFormatInformation 86 = .ok (.if_icmp .eq 25, 3) := by decide +kernel
theorem dX2_doDecodeFormatInformation_89 : decode cX2_doDecodeFormatInformation 89 = .ok (.iload_n 1, 1) := by decide +kernel
theorem dX2_doDecodeFormatInformation_90 : decode cX2_doDecodeFormatInformation 90 = .ok (.iload 8, 2) := by decide +kernel
theorem dX2_doDecodeFormatInformation_92 : decode cX2_doDecodeFormatInformation 92 = .ok (.invokestatic 41, 3) := by decide +kernel
theorem dX2_doDecodeFormatInformation_95 : decode cX2_doDecodeFormatInformation 95 = .ok (.istore 9, 2) := by decide +kernel
theorem dX2_doDecodeFormatInformation_97 : decode cX2_doDecodeFormatInformation 97 = .ok (.iload 9, 2) := by decide +kernel
theorem dX2_doDecodeFormatInformation_99 : decode cX2_doDecodeFormatInformation 99 = .ok (.iload_n 2, 1) := by decide +kernel
theorem dX2_doDecodeFormatInformation_100 : decode cX2_doDecodeFormatInformation 100 = .ok (.if_icmp .ge 11, 3) := by decide +kernel
theorem dX2_doDecodeFormatInformation_103 : decode cX2_doDecodeFormatInformation 103 = .ok (.aload 7, 2) := by decide +kernel
theorem dX2_doDecodeFormatInformation_105 : decode cX2_doDecodeFormatInformation 105 = .ok (.iconst 1, 1) := by decide +kernel
theorem dX2_doDecodeFormatInformation_106 : decode cX2_doDecodeFormatInformation 106 = .ok (.iaload, 1) := by decide +kernel
theorem dX2_doDecodeFormatInformation_107 : decode cX2_doDecodeFormatInformation 107 = .ok (.istore_n 3, 1) := by decide +kernel
theorem dX2_doDecodeFormatInformation_108 : decode cX2_doDecodeFormatInformation 108 = .ok (.iload 9, 2) := by decide +kernel
theorem dX2_doDecodeFormatInformation_110 : decode cX2_doDecodeFormatInformation 110 = .ok (.istore_n 2, 1) := by decide +kernel
theorem dX2_doDecodeFormatInformation_111 : decode cX2_doDecodeFormatInformation 111 = .ok (.iinc 6 1, 3) := by decide +kernel
theorem dX2_doDecodeFormatInformation_114 : decode cX2_doDecodeFormatInformation 114 = .ok (.goto (-96), 3) := by decide +kernel
theorem dX2_doDecodeFormatInformation_117 : decode cX2_doDecodeFormatInformation 117 = .ok (.iload_n 2, 1) := by decide +kernel
theorem dX2_doDecodeFormatInformation_118 : decode cX2_doDecodeFormatInformation 118 = .ok (.iconst 3, 1) := by decide +kernel
theorem dX2_doDecodeFormatInformation_119 : decode cX2_doDecodeFormatInformation 119 = .ok (.if_icmp .gt 12, 3) := by decide +kernel
theorem dX2_doDecodeFormatInformation_122 : decode cX2_doDecodeFormatInformation 122 = .ok (.new 14, 3) := by decide +kernel
theorem dX2_doDecodeFormatInformation_125 : decode cX2_doDecodeFormatInformation 125 = .ok (.dup, 1) := by decide +kernel
theorem dX2_doDecodeFormatInformation_126 : decode cX2_doDecodeFormatInformation 126 = .ok (.iload_n 3, 1) := by decide +kernel
theorem dX2_doDecodeFormatInformation_127 : decode cX2_doDecodeFormatInformation 127 = .ok (.invokespecial 38, 3) := by decide +kernel
theorem dX2_doDecodeFormatInformation_130 : decode cX2_doDecodeFormatInformation 130 = .ok (.areturn, 1) := by decide +kernel
theorem dX2_doDecodeFormatInformation_131 : decode cX2_doDecodeFormatInformation 131 = .ok (.aconst_null, 1) := by decide +kernel
theorem dX2_doDecodeFormatInformation_132 : decode cX2_doDecodeFormatInformation 132 = .ok (.areturn, 1) := by decide +kernel
abbrev cX2_init : ByteArray := prog_2_method_1_code
def yX2_init : MethodName := ⟨RX2, "<init>", "(I)V"⟩
theorem dX2_init_0 : decode cX2_init 0 = .ok (.aload_n 0, 1) := by decide +kernel
theorem dX2_init_1 : decode cX2_init 1 = .ok (.invokespecial 1, 3) := by decide +kernel
theorem dX2_init_4 : decode cX2_init 4 = .ok (.aload_n 0, 1) := by decide +kernel
theorem dX2_init_5 : decode cX2_init 5 = .ok (.iload_n 1, 1) := by decide +kernel
theorem dX2_init_6 : decode cX2_init 6 = .ok (.iconst 3, 1) := by decide +kernel
theorem dX2_init_7 : decode cX2_init 7 = .ok (.ishr, 1) := by decide +kernel
theorem dX2_init_8 : decode cX2_init 8 = .ok (.iconst 3, 1) := by decide +kernel
theorem dX2_init_9 : decode cX2_init 9 = .ok (.iand, 1) := by decide +kernel
theorem dX2_init_10 : decode cX2_init 10 = .ok (.invokestatic 7, 3) := by decide +kernel
theorem dX2_init_13 : decode cX2_init 13 = .ok (.putfield 13, 3) := by decide +kernel
theorem dX2_init_16 : decode cX2_init 16 = .ok (.aload_n 0, 1) := by decide +kernel
theorem dX2_init_17 : decode cX2_init 17 = .ok (.iload_n 1, 1) := by decide +kernel
theorem dX2_init_18 : decode cX2_init 18 = .ok (.bipush 7, 2) := by decide +kernel
theorem dX2_init_20 : decode cX2_init 20 = .ok (.iand, 1) := by decide +kernel
theorem dX2_init_21 : decode cX2_init 21 = .ok (.i2b, 1) := by decide +kernel
theorem dX2_init_22 : decode cX2_init 22 = .ok (.putfield 19, 3) := by decide +kernel
theorem dX2_init_25 : decode cX2_init 25 = .ok (.return_, 1) := by decide +kernel
abbrev cX2_numBitsDiffering : ByteArray := prog_2_method_2_code
def yX2_numBitsDiffering : MethodName := ⟨RX2, "numBitsDiffering", "(II)I"⟩
theorem dX2_numBitsDiffering_0 : decode cX2_numBitsDiffering 0 = .ok (.iload_n 0, 1) := by decide +kernel
theorem dX2_numBitsDiffering_1 : decode cX2_numBitsDiffering 1 = .ok (.iload_n 1, 1) := by decide +kernel
theorem dX2_numBitsDiffering_2 : decode cX2_numBitsDiffering 2 = .ok (.ixor, 1) := by decide +kernel
theorem dX2_numBitsDiffering_3 : decode cX2_numBitsDiffering 3 = .ok (.invokestatic 23, 3) := by decide +kernel
theorem dX2_numBitsDiffering_6 : decode cX2_numBitsDiffering 6 = .ok (.ireturn, 1) := by decide +kernel
abbrev cX2_getErrorCorrectionLevel : ByteArray := prog_2_method_5_code
def yX2_getErrorCorrectionLevel : MethodName := ⟨RX2, "getErrorCorrectionLevel", "()LErrorCorrectionLevel;"⟩
theorem dX2_getErrorCorrectionLevel_0 : decode cX2_getErrorCorrectionLevel 0 = .ok (.aload_n 0, 1) := by decide +kernel
theorem dX2_getErrorCorrectionLevel_1 : decode cX2_getErrorCorrectionLevel 1 = .ok (.getfield 13, 3) := by decide +kernel
theorem dX2_getErrorCorrectionLevel_4 : decode cX2_getErrorCorrectionLevel 4 = .ok (.areturn, 1) := by decide +kernel
abbrev cX2_getDataMask : ByteArray := prog_2_method_6_code
def yX2_getDataMask : MethodName := ⟨RX2, "getDataMask", "()B"⟩
theorem dX2_getDataMask_0 : decode cX2_getDataMask 0 = .ok (.aload_n 0, 1) := by decide +kernel
theorem dX2_getDataMask_1 : decode cX2_getDataMask 1 = .ok (.getfield 19, 3) := by decide +kernel
theorem dX2_getDataMask_4 : decode cX2_getDataMask 4 = .ok (.ireturn, 1) := by decide +kernel
theorem q5 : (Jvm.Cond.initialized "FormatInformation") ∈ lw_all := lw_g (lw_at lw_m0 3 rfl) rfl
theorem q27 : (Jvm.Cond.static ({ cls := "FormatInformation", name := "decodeFormatInformation", desc := "(II)LFormatInformation;" } : Jvm.MethodName)) ∈ lw_all := lw_g (lw_at lw_m0 25 rfl) rfl
theorem q28 : (Jvm.Cond.code ({ cls := "FormatInformation", name := "decodeFormatInformation", desc := "(II)LFormatInformation;" } : Jvm.MethodName) prog_2_method_3_code (3 : Nat) (Option.some (Jvm.ClassFile.FieldType.object "FormatInformation"))) ∈ lw_all := lw_g (lw_at lw_m0 26 rfl) rfl
theorem q29 : (Jvm.Cond.methodLink "FormatInformation" (29 : Nat) ({ cls := "FormatInformation", name := "doDecodeFormatInformation", desc := "(II)LFormatInformation;" } : Jvm.MethodName)) ∈ lw_all := lw_g (lw_at lw_m0 27 rfl) rfl
theorem q30 : (Jvm.Cond.static ({ cls := "FormatInformation", name := "doDecodeFormatInformation", desc := "(II)LFormatInformation;" } : Jvm.MethodName)) ∈ lw_all := lw_g (lw_at lw_m0 28 rfl) rfl
theorem q31 : (Jvm.Cond.code ({ cls := "FormatInformation", name := "doDecodeFormatInformation", desc := "(II)LFormatInformation;" } : Jvm.MethodName) prog_2_method_4_code (10 : Nat) (Option.some (Jvm.ClassFile.FieldType.object "FormatInformation"))) ∈ lw_all := lw_g (lw_at lw_m0 29 rfl) rfl
theorem q32 : (Jvm.Cond.constant "FormatInformation" (33 : Nat) (2147483647 : Int32)) ∈ lw_all := lw_g (lw_at lw_m0 30 rfl) rfl
theorem q33 : (Jvm.Cond.fieldLink "FormatInformation" (34 : Nat) "FormatInformation" "FORMAT_INFO_DECODE_LOOKUP" "[[I") ∈ lw_all := lw_g (lw_at lw_m0 31 rfl) rfl
theorem q34 : (Jvm.Cond.laysStatic "FormatInformation" "FORMAT_INFO_DECODE_LOOKUP" "[[I") ∈ lw_tbl := lw_at lw_m0 32 rfl
theorem q35 : (Jvm.Cond.classLink "FormatInformation" (14 : Nat) "FormatInformation") ∈ lw_all := lw_g (lw_at lw_m0 33 rfl) rfl
theorem q36 : (Jvm.Cond.instantiable "FormatInformation" (2 : Nat)) ∈ lw_all := lw_g (lw_at lw_m0 34 rfl) rfl
theorem q37 : (Jvm.Cond.methodLink "FormatInformation" (38 : Nat) ({ cls := "FormatInformation", name := "<init>", desc := "(I)V" } : Jvm.MethodName)) ∈ lw_all := lw_g (lw_at lw_m0 35 rfl) rfl
theorem q38 : (Jvm.Cond.instanceMethod ({ cls := "FormatInformation", name := "<init>", desc := "(I)V" } : Jvm.MethodName)) ∈ lw_all := lw_g (lw_at lw_m0 36 rfl) rfl
theorem q39 : (Jvm.Cond.code ({ cls := "FormatInformation", name := "<init>", desc := "(I)V" } : Jvm.MethodName) prog_2_method_1_code (2 : Nat) (Option.none : Option Jvm.ClassFile.FieldType)) ∈ lw_all := lw_g (lw_at lw_m0 37 rfl) rfl
theorem q40 : (Jvm.Cond.methodLink "FormatInformation" (1 : Nat) ({ cls := "java/lang/Object", name := "<init>", desc := "()V" } : Jvm.MethodName)) ∈ lw_all := lw_g (lw_at lw_m0 38 rfl) rfl
theorem q41 : (Jvm.Cond.methodLink "FormatInformation" (7 : Nat) ({ cls := "ErrorCorrectionLevel", name := "forBits", desc := "(I)LErrorCorrectionLevel;" } : Jvm.MethodName)) ∈ lw_all := lw_g (lw_at lw_m0 39 rfl) rfl
theorem q107 : (Jvm.Cond.fieldLink "FormatInformation" (13 : Nat) "FormatInformation" "errorCorrectionLevel" "LErrorCorrectionLevel;") ∈ lw_all := lw_g (lw_at lw_m0 105 rfl) rfl
theorem q108 : (Jvm.Cond.fieldLink "FormatInformation" (19 : Nat) "FormatInformation" "dataMask" "B") ∈ lw_all := lw_g (lw_at lw_m0 106 rfl) rfl
theorem q109 : (Jvm.Cond.laysFinal "FormatInformation" "FormatInformation" "errorCorrectionLevel" "LErrorCorrectionLevel;") ∈ lw_all := lw_g (lw_at lw_m0 107 rfl) rfl
theorem q110 : (Jvm.Cond.soleField "FormatInformation" "errorCorrectionLevel") ∈ lw_all := lw_g (lw_at lw_m0 108 rfl) rfl
theorem q111 : (Jvm.Cond.laysFinal "FormatInformation" "FormatInformation" "dataMask" "B") ∈ lw_all := lw_g (lw_at lw_m0 109 rfl) rfl
theorem q112 : (Jvm.Cond.soleField "FormatInformation" "dataMask") ∈ lw_all := lw_g (lw_at lw_m0 110 rfl) rfl
theorem q113 : (Jvm.Cond.superclass "FormatInformation" "java/lang/Object") ∈ lw_all := lw_g (lw_at lw_m0 111 rfl) rfl
theorem q114 : (Jvm.Cond.methodLink "FormatInformation" (41 : Nat) ({ cls := "FormatInformation", name := "numBitsDiffering", desc := "(II)I" } : Jvm.MethodName)) ∈ lw_all := lw_g (lw_at lw_m0 112 rfl) rfl
theorem q115 : (Jvm.Cond.static ({ cls := "FormatInformation", name := "numBitsDiffering", desc := "(II)I" } : Jvm.MethodName)) ∈ lw_all := lw_g (lw_at lw_m0 113 rfl) rfl
theorem q116 : (Jvm.Cond.code ({ cls := "FormatInformation", name := "numBitsDiffering", desc := "(II)I" } : Jvm.MethodName) prog_2_method_2_code (2 : Nat) (Option.some Jvm.ClassFile.FieldType.int)) ∈ lw_all := lw_g (lw_at lw_m0 114 rfl) rfl
theorem q117 : (Jvm.Cond.methodLink "FormatInformation" (23 : Nat) ({ cls := "java/lang/Integer", name := "bitCount", desc := "(I)I" } : Jvm.MethodName)) ∈ lw_all := lw_g (lw_at lw_m0 115 rfl) rfl
theorem q124 : (Jvm.Cond.instanceMethod ({ cls := "FormatInformation", name := "getErrorCorrectionLevel", desc := "()LErrorCorrectionLevel;" } : Jvm.MethodName)) ∈ lw_all := lw_g (lw_at lw_m0 122 rfl) rfl
theorem q125 : (Jvm.Cond.selects "FormatInformation" ({ cls := "FormatInformation", name := "getErrorCorrectionLevel", desc := "()LErrorCorrectionLevel;" } : Jvm.MethodName) ({ cls := "FormatInformation", name := "getErrorCorrectionLevel", desc := "()LErrorCorrectionLevel;" } : Jvm.MethodName)) ∈ lw_all := lw_g (lw_at lw_m0 123 rfl) rfl
theorem q126 : (Jvm.Cond.code ({ cls := "FormatInformation", name := "getErrorCorrectionLevel", desc := "()LErrorCorrectionLevel;" } : Jvm.MethodName) prog_2_method_5_code (1 : Nat) (Option.some (Jvm.ClassFile.FieldType.object "ErrorCorrectionLevel"))) ∈ lw_all := lw_g (lw_at lw_m0 124 rfl) rfl
theorem q132 : (Jvm.Cond.instanceMethod ({ cls := "FormatInformation", name := "getDataMask", desc := "()B" } : Jvm.MethodName)) ∈ lw_all := lw_g (lw_at lw_m0 130 rfl) rfl
theorem q133 : (Jvm.Cond.selects "FormatInformation" ({ cls := "FormatInformation", name := "getDataMask", desc := "()B" } : Jvm.MethodName) ({ cls := "FormatInformation", name := "getDataMask", desc := "()B" } : Jvm.MethodName)) ∈ lw_all := lw_g (lw_at lw_m0 131 rfl) rfl
theorem q134 : (Jvm.Cond.code ({ cls := "FormatInformation", name := "getDataMask", desc := "()B" } : Jvm.MethodName) prog_2_method_6_code (1 : Nat) (Option.some Jvm.ClassFile.FieldType.byte)) ∈ lw_all := lw_g (lw_at lw_m0 132 rfl) rfl
theorem in_X2 : ∀ w ∈ wsX20, w ∈ lw_all := lw_in wsX20 [109, 111] (by decide +kernel) (by decide +kernel)
/-! FormatWordModel -/
def RX1 : String := "FormatWordModel"
abbrev cX1_init : ByteArray := prog_5_method_1_code
def yX1_init : MethodName := ⟨RX1, "<init>", "()V"⟩
theorem dX1_init_0 : decode cX1_init 0 = .ok (.aload_n 0, 1) := by decide +kernel
theorem dX1_init_1 : decode cX1_init 1 = .ok (.invokespecial 1, 3) := by decide +kernel
theorem dX1_init_4 : decode cX1_init 4 = .ok (.return_, 1) := by decide +kernel
abbrev cX1_apart : ByteArray := prog_5_method_3_code
def yX1_apart : MethodName := ⟨RX1, "apart", "(II)I"⟩
theorem dX1_apart_0 : decode cX1_apart 0 = .ok (.iconst 0, 1) := by decide +kernel
theorem dX1_apart_1 : decode cX1_apart 1 = .ok (.istore_n 3, 1) := by decide +kernel
theorem dX1_apart_2 : decode cX1_apart 2 = .ok (.iconst 0, 1) := by decide +kernel
theorem dX1_apart_3 : decode cX1_apart 3 = .ok (.istore 4, 2) := by decide +kernel
theorem dX1_apart_5 : decode cX1_apart 5 = .ok (.iload 4, 2) := by decide +kernel
theorem dX1_apart_7 : decode cX1_apart 7 = .ok (.bipush 32, 2) := by decide +kernel
theorem dX1_apart_9 : decode cX1_apart 9 = .ok (.if_icmp .ge 20, 3) := by decide +kernel
theorem dX1_apart_12 : decode cX1_apart 12 = .ok (.iload_n 3, 1) := by decide +kernel
theorem dX1_apart_13 : decode cX1_apart 13 = .ok (.iload_n 1, 1) := by decide +kernel
theorem dX1_apart_14 : decode cX1_apart 14 = .ok (.iload_n 2, 1) := by decide +kernel
theorem dX1_apart_15 : decode cX1_apart 15 = .ok (.ixor, 1) := by decide +kernel
theorem dX1_apart_16 : decode cX1_apart 16 = .ok (.iload 4, 2) := by decide +kernel
theorem dX1_apart_18 : decode cX1_apart 18 = .ok (.iushr, 1) := by decide +kernel
theorem dX1_apart_19 : decode cX1_apart 19 = .ok (.iconst 1, 1) := by decide +kernel
theorem dX1_apart_20 : decode cX1_apart 20 = .ok (.iand, 1) := by decide +kernel
theorem dX1_apart_21 : decode cX1_apart 21 = .ok (.iadd, 1) := by decide +kernel
theorem dX1_apart_22 : decode cX1_apart 22 = .ok (.istore_n 3, 1) := by decide +kernel
theorem dX1_apart_23 : decode cX1_apart 23 = .ok (.iinc 4 1, 3) := by decide +kernel
theorem dX1_apart_26 : decode cX1_apart 26 = .ok (.goto (-21), 3) := by decide +kernel
theorem dX1_apart_29 : decode cX1_apart 29 = .ok (.iload_n 3, 1) := by decide +kernel
theorem dX1_apart_30 : decode cX1_apart 30 = .ok (.ireturn, 1) := by decide +kernel
abbrev cX1_read : ByteArray := prog_5_method_5_code
def yX1_read : MethodName := ⟨RX1, "read", "(II)I"⟩
theorem dX1_read_0 : decode cX1_read 0 = .ok (.aload_n 0, 1) := by decide +kernel
theorem dX1_read_1 : decode cX1_read 1 = .ok (.iload_n 1, 1) := by decide +kernel
theorem dX1_read_2 : decode cX1_read 2 = .ok (.iload_n 2, 1) := by decide +kernel
theorem dX1_read_3 : decode cX1_read 3 = .ok (.invokevirtual 17, 3) := by decide +kernel
theorem dX1_read_6 : decode cX1_read 6 = .ok (.istore_n 3, 1) := by decide +kernel
theorem dX1_read_7 : decode cX1_read 7 = .ok (.iload_n 3, 1) := by decide +kernel
theorem dX1_read_8 : decode cX1_read 8 = .ok (.ifCond .lt 7, 3) := by decide +kernel
theorem dX1_read_11 : decode cX1_read 11 = .ok (.iload_n 3, 1) := by decide +kernel
theorem dX1_read_12 : decode cX1_read 12 = .ok (.goto 17, 3) := by decide +kernel
theorem dX1_read_15 : decode cX1_read 15 = .ok (.aload_n 0, 1) := by decide +kernel
theorem dX1_read_16 : decode cX1_read 16 = .ok (.iload_n 1, 1) := by decide +kernel
theorem dX1_read_17 : decode cX1_read 17 = .ok (.sipush 21522, 3) := by decide +kernel
theorem dX1_read_20 : decode cX1_read 20 = .ok (.ixor, 1) := by decide +kernel
theorem dX1_read_21 : decode cX1_read 21 = .ok (.iload_n 2, 1) := by decide +kernel
theorem dX1_read_22 : decode cX1_read 22 = .ok (.sipush 21522, 3) := by decide +kernel
theorem dX1_read_25 : decode cX1_read 25 = .ok (.ixor, 1) := by decide +kernel
theorem dX1_read_26 : decode cX1_read 26 = .ok (.invokevirtual 17, 3) := by decide +kernel
theorem dX1_read_29 : decode cX1_read 29 = .ok (.ireturn, 1) := by decide +kernel
abbrev cX1_nearest : ByteArray := prog_5_method_4_code
def yX1_nearest : MethodName := ⟨RX1, "nearest", "(II)I"⟩
theorem dX1_nearest_0 : decode cX1_nearest 0 = .ok (.bipush 99, 2) := by decide +kernel
theorem dX1_nearest_2 : decode cX1_nearest 2 = .ok (.istore_n 3, 1) := by decide +kernel
theorem dX1_nearest_3 : decode cX1_nearest 3 = .ok (.iconst (-1), 1) := by decide +kernel
theorem dX1_nearest_4 : decode cX1_nearest 4 = .ok (.istore 4, 2) := by decide +kernel
theorem dX1_nearest_6 : decode cX1_nearest 6 = .ok (.iconst 0, 1) := by decide +kernel
theorem dX1_nearest_7 : decode cX1_nearest 7 = .ok (.istore 5, 2) := by decide +kernel
theorem dX1_nearest_9 : decode cX1_nearest 9 = .ok (.iload 5, 2) := by decide +kernel
theorem dX1_nearest_11 : decode cX1_nearest 11 = .ok (.bipush 32, 2) := by decide +kernel
theorem dX1_nearest_13 : decode cX1_nearest 13 = .ok (.if_icmp .ge 62, 3) := by decide +kernel
theorem dX1_nearest_16 : decode cX1_nearest 16 = .ok (.aload_n 0, 1) := by decide +kernel
theorem dX1_nearest_17 : decode cX1_nearest 17 = .ok (.iload 5, 2) := by decide +kernel
theorem dX1_nearest_19 : decode cX1_nearest 19 = .ok (.invokestatic 7, 3) := by decide +kernel
theorem dX1_nearest_22 : decode cX1_nearest 22 = .ok (.iload_n 1, 1) := by decide +kernel
theorem dX1_nearest_23 : decode cX1_nearest 23 = .ok (.invokevirtual 13, 3) := by decide +kernel
theorem dX1_nearest_26 : decode cX1_nearest 26 = .ok (.istore 6, 2) := by decide +kernel
theorem dX1_nearest_28 : decode cX1_nearest 28 = .ok (.aload_n 0, 1) := by decide +kernel
theorem dX1_nearest_29 : decode cX1_nearest 29 = .ok (.iload 5, 2) := by decide +kernel
theorem dX1_nearest_31 : decode cX1_nearest 31 = .ok (.invokestatic 7, 3) := by decide +kernel
theorem dX1_nearest_34 : decode cX1_nearest 34 = .ok (.iload_n 2, 1) := by decide +kernel
theorem dX1_nearest_35 : decode cX1_nearest 35 = .ok (.invokevirtual 13, 3) := by decide +kernel
theorem dX1_nearest_38 : decode cX1_nearest 38 = .ok (.istore 7, 2) := by decide +kernel
theorem dX1_nearest_40 : decode cX1_nearest 40 = .ok (.iload 6, 2) := by decide +kernel
theorem dX1_nearest_42 : decode cX1_nearest 42 = .ok (.iload 7, 2) := by decide +kernel
theorem dX1_nearest_44 : decode cX1_nearest 44 = .ok (.if_icmp .ge 8, 3) := by decide +kernel
theorem dX1_nearest_47 : decode cX1_nearest 47 = .ok (.iload 6, 2) := by decide +kernel
theorem dX1_nearest_49 : decode cX1_nearest 49 = .ok (.goto 5, 3) := by decide +kernel
theorem dX1_nearest_52 : decode cX1_nearest 52 = .ok (.iload 7, 2) := by decide +kernel
theorem dX1_nearest_54 : decode cX1_nearest 54 = .ok (.istore 8, 2) := by decide +kernel
theorem dX1_nearest_56 : decode cX1_nearest 56 = .ok (.iload 8, 2) := by decide +kernel
theorem dX1_nearest_58 : decode cX1_nearest 58 = .ok (.iload_n 3, 1) := by decide +kernel
theorem dX1_nearest_59 : decode cX1_nearest 59 = .ok (.if_icmp .ge 10, 3) := by decide +kernel
theorem dX1_nearest_62 : decode cX1_nearest 62 = .ok (.iload 8, 2) := by decide +kernel
theorem dX1_nearest_64 : decode cX1_nearest 64 = .ok (.istore_n 3, 1) := by decide +kernel
theorem dX1_nearest_65 : decode cX1_nearest 65 = .ok (.iload 5, 2) := by decide +kernel
theorem dX1_nearest_67 : decode cX1_nearest 67 = .ok (.istore 4, 2) := by decide +kernel
theorem dX1_nearest_69 : decode cX1_nearest 69 = .ok (.iinc 5 1, 3) := by decide +kernel
theorem dX1_nearest_72 : decode cX1_nearest 72 = .ok (.goto (-63), 3) := by decide +kernel
theorem dX1_nearest_75 : decode cX1_nearest 75 = .ok (.iload_n 3, 1) := by decide +kernel
theorem dX1_nearest_76 : decode cX1_nearest 76 = .ok (.iconst 3, 1) := by decide +kernel
theorem dX1_nearest_77 : decode cX1_nearest 77 = .ok (.if_icmp .gt 8, 3) := by decide +kernel
theorem dX1_nearest_80 : decode cX1_nearest 80 = .ok (.iload 4, 2) := by decide +kernel
theorem dX1_nearest_82 : decode cX1_nearest 82 = .ok (.goto 4, 3) := by decide +kernel
theorem dX1_nearest_85 : decode cX1_nearest 85 = .ok (.iconst (-1), 1) := by decide +kernel
theorem dX1_nearest_86 : decode cX1_nearest 86 = .ok (.ireturn, 1) := by decide +kernel
abbrev cX1_word : ByteArray := prog_5_method_2_code
def yX1_word : MethodName := ⟨RX1, "word", "(I)I"⟩
theorem dX1_word_0 : decode cX1_word 0 = .ok (.iload_n 0, 1) := by decide +kernel
theorem dX1_word_1 : decode cX1_word 1 = .ok (.bipush 10, 2) := by decide +kernel
theorem dX1_word_3 : decode cX1_word 3 = .ok (.ishl, 1) := by decide +kernel
theorem dX1_word_4 : decode cX1_word 4 = .ok (.istore_n 1, 1) := by decide +kernel
theorem dX1_word_5 : decode cX1_word 5 = .ok (.bipush 14, 2) := by decide +kernel
theorem dX1_word_7 : decode cX1_word 7 = .ok (.istore_n 2, 1) := by decide +kernel
theorem dX1_word_8 : decode cX1_word 8 = .ok (.iload_n 2, 1) := by decide +kernel
theorem dX1_word_9 : decode cX1_word 9 = .ok (.bipush 10, 2) := by decide +kernel
theorem dX1_word_11 : decode cX1_word 11 = .ok (.if_icmp .lt 28, 3) := by decide +kernel
theorem dX1_word_14 : decode cX1_word 14 = .ok (.iload_n 1, 1) := by decide +kernel
theorem dX1_word_15 : decode cX1_word 15 = .ok (.iload_n 2, 1) := by decide +kernel
theorem dX1_word_16 : decode cX1_word 16 = .ok (.ishr, 1) := by decide +kernel
theorem dX1_word_17 : decode cX1_word 17 = .ok (.iconst 1, 1) := by decide +kernel
theorem dX1_word_18 : decode cX1_word 18 = .ok (.iand, 1) := by decide +kernel
theorem dX1_word_19 : decode cX1_word 19 = .ok (.ifCond .eq 14, 3) := by decide +kernel
theorem dX1_word_22 : decode cX1_word 22 = .ok (.iload_n 1, 1) := by decide +kernel
theorem dX1_word_23 : decode cX1_word 23 = .ok (.sipush 1335, 3) := by decide +kernel
theorem dX1_word_26 : decode cX1_word 26 = .ok (.iload_n 2, 1) := by decide +kernel
theorem dX1_word_27 : decode cX1_word 27 = .ok (.bipush 10, 2) := by decide +kernel
theorem dX1_word_29 : decode cX1_word 29 = .ok (.isub, 1) := by decide +kernel
theorem dX1_word_30 : decode cX1_word 30 = .ok (.ishl, 1) := by decide +kernel
theorem dX1_word_31 : decode cX1_word 31 = .ok (.ixor, 1) := by decide +kernel
theorem dX1_word_32 : decode cX1_word 32 = .ok (.istore_n 1, 1) := by decide +kernel
theorem dX1_word_33 : decode cX1_word 33 = .ok (.iinc 2 (-1), 3) := by decide +kernel
theorem dX1_word_36 : decode cX1_word 36 = .ok (.goto (-28), 3) := by decide +kernel
theorem dX1_word_39 : decode cX1_word 39 = .ok (.iload_n 0, 1) := by decide +kernel
theorem dX1_word_40 : decode cX1_word 40 = .ok (.bipush 10, 2) := by decide +kernel
theorem dX1_word_42 : decode cX1_word 42 = .ok (.ishl, 1) := by decide +kernel
theorem dX1_word_43 : decode cX1_word 43 = .ok (.iload_n 1, 1) := by decide +kernel
theorem dX1_word_44 : decode cX1_word 44 = .ok (.ior, 1) := by decide +kernel
theorem dX1_word_45 : decode cX1_word 45 = .ok (.sipush 21522, 3) := by decide +kernel
theorem dX1_word_48 : decode cX1_word 48 = .ok (.ixor, 1) := by decide +kernel
theorem dX1_word_49 : decode cX1_word 49 = .ok (.ireturn, 1) := by decide +kernel
theorem q4 : (Jvm.Cond.initialized "FormatWordModel") ∈ lw_all := lw_g (lw_at lw_m0 2 rfl) rfl
theorem q141 : (Jvm.Cond.instantiable "FormatWordModel" (0 : Nat)) ∈ lw_all := lw_g (lw_at lw_m0 139 rfl) rfl
theorem q143 : (Jvm.Cond.instanceMethod ({ cls := "FormatWordModel", name := "<init>", desc := "()V" } : Jvm.MethodName)) ∈ lw_all := lw_g (lw_at lw_m0 141 rfl) rfl
theorem q144 : (Jvm.Cond.code ({ cls := "FormatWordModel", name := "<init>", desc := "()V" } : Jvm.MethodName) prog_5_method_1_code (1 : Nat) (Option.none : Option Jvm.ClassFile.FieldType)) ∈ lw_all := lw_g (lw_at lw_m0 142 rfl) rfl
theorem q145 : (Jvm.Cond.methodLink "FormatWordModel" (1 : Nat) ({ cls := "java/lang/Object", name := "<init>", desc := "()V" } : Jvm.MethodName)) ∈ lw_all := lw_g (lw_at lw_m0 143 rfl) rfl
theorem q146 : (Jvm.Cond.superclass "FormatWordModel" "java/lang/Object") ∈ lw_all := lw_g (lw_at lw_m0 144 rfl) rfl
theorem q148 : (Jvm.Cond.instanceMethod ({ cls := "FormatWordModel", name := "apart", desc := "(II)I" } : Jvm.MethodName)) ∈ lw_all := lw_g (lw_at lw_m0 146 rfl) rfl
theorem q149 : (Jvm.Cond.selects "FormatWordModel" ({ cls := "FormatWordModel", name := "apart", desc := "(II)I" } : Jvm.MethodName) ({ cls := "FormatWordModel", name := "apart", desc := "(II)I" } : Jvm.MethodName)) ∈ lw_all := lw_g (lw_at lw_m0 147 rfl) rfl
theorem q150 : (Jvm.Cond.code ({ cls := "FormatWordModel", name := "apart", desc := "(II)I" } : Jvm.MethodName) prog_5_method_3_code (5 : Nat) (Option.some Jvm.ClassFile.FieldType.int)) ∈ lw_all := lw_g (lw_at lw_m0 148 rfl) rfl
theorem q152 : (Jvm.Cond.instanceMethod ({ cls := "FormatWordModel", name := "read", desc := "(II)I" } : Jvm.MethodName)) ∈ lw_all := lw_g (lw_at lw_m0 150 rfl) rfl
theorem q153 : (Jvm.Cond.selects "FormatWordModel" ({ cls := "FormatWordModel", name := "read", desc := "(II)I" } : Jvm.MethodName) ({ cls := "FormatWordModel", name := "read", desc := "(II)I" } : Jvm.MethodName)) ∈ lw_all := lw_g (lw_at lw_m0 151 rfl) rfl
theorem q154 : (Jvm.Cond.code ({ cls := "FormatWordModel", name := "read", desc := "(II)I" } : Jvm.MethodName) prog_5_method_5_code (4 : Nat) (Option.some Jvm.ClassFile.FieldType.int)) ∈ lw_all := lw_g (lw_at lw_m0 152 rfl) rfl
theorem q155 : (Jvm.Cond.methodLink "FormatWordModel" (17 : Nat) ({ cls := "FormatWordModel", name := "nearest", desc := "(II)I" } : Jvm.MethodName)) ∈ lw_all := lw_g (lw_at lw_m0 153 rfl) rfl
theorem q156 : (Jvm.Cond.privateMethod ({ cls := "FormatWordModel", name := "nearest", desc := "(II)I" } : Jvm.MethodName)) ∈ lw_tbl := lw_at lw_m0 154 rfl
theorem q157 : (Jvm.Cond.instanceMethod ({ cls := "FormatWordModel", name := "nearest", desc := "(II)I" } : Jvm.MethodName)) ∈ lw_all := lw_g (lw_at lw_m0 155 rfl) rfl
theorem q158 : (Jvm.Cond.code ({ cls := "FormatWordModel", name := "nearest", desc := "(II)I" } : Jvm.MethodName) prog_5_method_4_code (9 : Nat) (Option.some Jvm.ClassFile.FieldType.int)) ∈ lw_all := lw_g (lw_at lw_m0 156 rfl) rfl
theorem q159 : (Jvm.Cond.methodLink "FormatWordModel" (7 : Nat) ({ cls := "FormatWordModel", name := "word", desc := "(I)I" } : Jvm.MethodName)) ∈ lw_all := lw_g (lw_at lw_m0 157 rfl) rfl
theorem q160 : (Jvm.Cond.static ({ cls := "FormatWordModel", name := "word", desc := "(I)I" } : Jvm.MethodName)) ∈ lw_all := lw_g (lw_at lw_m0 158 rfl) rfl
theorem q161 : (Jvm.Cond.code ({ cls := "FormatWordModel", name := "word", desc := "(I)I" } : Jvm.MethodName) prog_5_method_2_code (3 : Nat) (Option.some Jvm.ClassFile.FieldType.int)) ∈ lw_all := lw_g (lw_at lw_m0 159 rfl) rfl
theorem q162 : (Jvm.Cond.methodLink "FormatWordModel" (13 : Nat) ({ cls := "FormatWordModel", name := "apart", desc := "(II)I" } : Jvm.MethodName)) ∈ lw_all := lw_g (lw_at lw_m0 160 rfl) rfl
/-! FormatWord -/
def RX0 : String := "FormatWord"
abbrev cX0_init : ByteArray := prog_3_method_1_code
def yX0_init : MethodName := ⟨RX0, "<init>", "()V"⟩
theorem dX0_init_0 : decode cX0_init 0 = .ok (.aload_n 0, 1) := by decide +kernel
theorem dX0_init_1 : decode cX0_init 1 = .ok (.invokespecial 1, 3) := by decide +kernel
theorem dX0_init_4 : decode cX0_init 4 = .ok (.return_, 1) := by decide +kernel
abbrev cX0_read : ByteArray := prog_3_method_2_code
def yX0_read : MethodName := ⟨RX0, "read", "(II)I"⟩
theorem dX0_read_0 : decode cX0_read 0 = .ok (.iload_n 1, 1) := by decide +kernel
theorem dX0_read_1 : decode cX0_read 1 = .ok (.iload_n 2, 1) := by decide +kernel
theorem dX0_read_2 : decode cX0_read 2 = .ok (.invokestatic 7, 3) := by decide +kernel
theorem dX0_read_5 : decode cX0_read 5 = .ok (.astore_n 3, 1) := by decide +kernel
theorem dX0_read_6 : decode cX0_read 6 = .ok (.aload_n 3, 1) := by decide +kernel
theorem dX0_read_7 : decode cX0_read 7 = .ok (.ifnonnull 7, 3) := by decide +kernel
theorem dX0_read_10 : decode cX0_read 10 = .ok (.iconst (-1), 1) := by decide +kernel
theorem dX0_read_11 : decode cX0_read 11 = .ok (.goto 17, 3) := by decide +kernel
theorem dX0_read_14 : decode cX0_read 14 = .ok (.aload_n 3, 1) := by decide +kernel
theorem dX0_read_15 : decode cX0_read 15 = .ok (.invokevirtual 13, 3) := by decide +kernel
theorem dX0_read_18 : decode cX0_read 18 = .ok (.invokevirtual 17, 3) := by decide +kernel
theorem dX0_read_21 : decode cX0_read 21 = .ok (.iconst 3, 1) := by decide +kernel
theorem dX0_read_22 : decode cX0_read 22 = .ok (.ishl, 1) := by decide +kernel
theorem dX0_read_23 : decode cX0_read 23 = .ok (.aload_n 3, 1) := by decide +kernel
theorem dX0_read_24 : decode cX0_read 24 = .ok (.invokevirtual 23, 3) := by decide +kernel
theorem dX0_read_27 : decode cX0_read 27 = .ok (.ior, 1) := by decide +kernel
theorem dX0_read_28 : decode cX0_read 28 = .ok (.ireturn, 1) := by decide +kernel
abbrev cX0_apart : ByteArray := prog_3_method_3_code
def yX0_apart : MethodName := ⟨RX0, "apart", "(II)I"⟩
theorem dX0_apart_0 : decode cX0_apart 0 = .ok (.iload_n 1, 1) := by decide +kernel
theorem dX0_apart_1 : decode cX0_apart 1 = .ok (.iload_n 2, 1) := by decide +kernel
theorem dX0_apart_2 : decode cX0_apart 2 = .ok (.invokestatic 27, 3) := by decide +kernel
theorem dX0_apart_5 : decode cX0_apart 5 = .ok (.ireturn, 1) := by decide +kernel
theorem q3 : (Jvm.Cond.initialized "FormatWord") ∈ lw_all := lw_g (lw_at lw_m0 1 rfl) rfl
theorem q14 : (Jvm.Cond.instantiable "FormatWord" (0 : Nat)) ∈ lw_all := lw_g (lw_at lw_m0 12 rfl) rfl
theorem q16 : (Jvm.Cond.instanceMethod ({ cls := "FormatWord", name := "<init>", desc := "()V" } : Jvm.MethodName)) ∈ lw_all := lw_g (lw_at lw_m0 14 rfl) rfl
theorem q17 : (Jvm.Cond.code ({ cls := "FormatWord", name := "<init>", desc := "()V" } : Jvm.MethodName) prog_3_method_1_code (1 : Nat) (Option.none : Option Jvm.ClassFile.FieldType)) ∈ lw_all := lw_g (lw_at lw_m0 15 rfl) rfl
theorem q18 : (Jvm.Cond.methodLink "FormatWord" (1 : Nat) ({ cls := "java/lang/Object", name := "<init>", desc := "()V" } : Jvm.MethodName)) ∈ lw_all := lw_g (lw_at lw_m0 16 rfl) rfl
theorem q21 : (Jvm.Cond.superclass "FormatWord" "java/lang/Object") ∈ lw_all := lw_g (lw_at lw_m0 19 rfl) rfl
theorem q23 : (Jvm.Cond.instanceMethod ({ cls := "FormatWord", name := "read", desc := "(II)I" } : Jvm.MethodName)) ∈ lw_all := lw_g (lw_at lw_m0 21 rfl) rfl
theorem q24 : (Jvm.Cond.selects "FormatWord" ({ cls := "FormatWord", name := "read", desc := "(II)I" } : Jvm.MethodName) ({ cls := "FormatWord", name := "read", desc := "(II)I" } : Jvm.MethodName)) ∈ lw_all := lw_g (lw_at lw_m0 22 rfl) rfl
theorem q25 : (Jvm.Cond.code ({ cls := "FormatWord", name := "read", desc := "(II)I" } : Jvm.MethodName) prog_3_method_2_code (4 : Nat) (Option.some Jvm.ClassFile.FieldType.int)) ∈ lw_all := lw_g (lw_at lw_m0 23 rfl) rfl
theorem q26 : (Jvm.Cond.methodLink "FormatWord" (7 : Nat) ({ cls := "FormatInformation", name := "decodeFormatInformation", desc := "(II)LFormatInformation;" } : Jvm.MethodName)) ∈ lw_all := lw_g (lw_at lw_m0 24 rfl) rfl
theorem q123 : (Jvm.Cond.methodLink "FormatWord" (13 : Nat) ({ cls := "FormatInformation", name := "getErrorCorrectionLevel", desc := "()LErrorCorrectionLevel;" } : Jvm.MethodName)) ∈ lw_all := lw_g (lw_at lw_m0 121 rfl) rfl
theorem q127 : (Jvm.Cond.methodLink "FormatWord" (17 : Nat) ({ cls := "ErrorCorrectionLevel", name := "getBits", desc := "()I" } : Jvm.MethodName)) ∈ lw_all := lw_g (lw_at lw_m0 125 rfl) rfl
theorem q131 : (Jvm.Cond.methodLink "FormatWord" (23 : Nat) ({ cls := "FormatInformation", name := "getDataMask", desc := "()B" } : Jvm.MethodName)) ∈ lw_all := lw_g (lw_at lw_m0 129 rfl) rfl
theorem q136 : (Jvm.Cond.instanceMethod ({ cls := "FormatWord", name := "apart", desc := "(II)I" } : Jvm.MethodName)) ∈ lw_all := lw_g (lw_at lw_m0 134 rfl) rfl
theorem q137 : (Jvm.Cond.selects "FormatWord" ({ cls := "FormatWord", name := "apart", desc := "(II)I" } : Jvm.MethodName) ({ cls := "FormatWord", name := "apart", desc := "(II)I" } : Jvm.MethodName)) ∈ lw_all := lw_g (lw_at lw_m0 135 rfl) rfl
theorem q138 : (Jvm.Cond.code ({ cls := "FormatWord", name := "apart", desc := "(II)I" } : Jvm.MethodName) prog_3_method_3_code (3 : Nat) (Option.some Jvm.ClassFile.FieldType.int)) ∈ lw_all := lw_g (lw_at lw_m0 136 rfl) rfl
theorem q139 : (Jvm.Cond.methodLink "FormatWord" (27 : Nat) ({ cls := "FormatInformation", name := "numBitsDiffering", desc := "(II)I" } : Jvm.MethodName)) ∈ lw_all := lw_g (lw_at lw_m0 137 rfl) rfl
/-! the law's own entry -/
abbrev cL_law : ByteArray := code
theorem dL_law_0 : decode cL_law 0 = .ok (.new 7, 3) := by decide +kernel
theorem dL_law_3 : decode cL_law 3 = .ok (.dup, 1) := by decide +kernel
theorem dL_law_4 : decode cL_law 4 = .ok (.invokespecial 9, 3) := by decide +kernel
theorem dL_law_7 : decode cL_law 7 = .ok (.astore_n 1, 1) := by decide +kernel
theorem dL_law_8 : decode cL_law 8 = .ok (.new 10, 3) := by decide +kernel
theorem dL_law_11 : decode cL_law 11 = .ok (.dup, 1) := by decide +kernel
theorem dL_law_12 : decode cL_law 12 = .ok (.invokespecial 12, 3) := by decide +kernel
theorem dL_law_15 : decode cL_law 15 = .ok (.astore_n 2, 1) := by decide +kernel
theorem dL_law_16 : decode cL_law 16 = .ok (.iconst 0, 1) := by decide +kernel
theorem dL_law_17 : decode cL_law 17 = .ok (.istore_n 3, 1) := by decide +kernel
theorem dL_law_18 : decode cL_law 18 = .ok (.iload_n 3, 1) := by decide +kernel
theorem dL_law_19 : decode cL_law 19 = .ok (.aload_n 0, 1) := by decide +kernel
theorem dL_law_20 : decode cL_law 20 = .ok (.arraylength, 1) := by decide +kernel
theorem dL_law_21 : decode cL_law 21 = .ok (.bipush 6, 2) := by decide +kernel
theorem dL_law_23 : decode cL_law 23 = .ok (.isub, 1) := by decide +kernel
theorem dL_law_24 : decode cL_law 24 = .ok (.if_icmp .gt 108, 3) := by decide +kernel
theorem dL_law_27 : decode cL_law 27 = .ok (.aload_n 0, 1) := by decide +kernel
theorem dL_law_28 : decode cL_law 28 = .ok (.iload_n 3, 1) := by decide +kernel
theorem dL_law_29 : decode cL_law 29 = .ok (.iaload, 1) := by decide +kernel
theorem dL_law_30 : decode cL_law 30 = .ok (.bipush 15, 2) := by decide +kernel
theorem dL_law_32 : decode cL_law 32 = .ok (.iand, 1) := by decide +kernel
theorem dL_law_33 : decode cL_law 33 = .ok (.lookupswitch 93 #[(0, 27), (1, 60)], 27) := by decide +kernel
theorem dL_law_60 : decode cL_law 60 = .ok (.aload_n 1, 1) := by decide +kernel
theorem dL_law_61 : decode cL_law 61 = .ok (.aload_n 0, 1) := by decide +kernel
theorem dL_law_62 : decode cL_law 62 = .ok (.iload_n 3, 1) := by decide +kernel
theorem dL_law_63 : decode cL_law 63 = .ok (.iconst 1, 1) := by decide +kernel
theorem dL_law_64 : decode cL_law 64 = .ok (.iadd, 1) := by decide +kernel
theorem dL_law_65 : decode cL_law 65 = .ok (.iaload, 1) := by decide +kernel
theorem dL_law_66 : decode cL_law 66 = .ok (.aload_n 0, 1) := by decide +kernel
theorem dL_law_67 : decode cL_law 67 = .ok (.iload_n 3, 1) := by decide +kernel
theorem dL_law_68 : decode cL_law 68 = .ok (.iconst 2, 1) := by decide +kernel
theorem dL_law_69 : decode cL_law 69 = .ok (.iadd, 1) := by decide +kernel
theorem dL_law_70 : decode cL_law 70 = .ok (.iaload, 1) := by decide +kernel
theorem dL_law_71 : decode cL_law 71 = .ok (.invokevirtual 13, 3) := by decide +kernel
theorem dL_law_74 : decode cL_law 74 = .ok (.aload_n 2, 1) := by decide +kernel
theorem dL_law_75 : decode cL_law 75 = .ok (.aload_n 0, 1) := by decide +kernel
theorem dL_law_76 : decode cL_law 76 = .ok (.iload_n 3, 1) := by decide +kernel
theorem dL_law_77 : decode cL_law 77 = .ok (.iconst 1, 1) := by decide +kernel
theorem dL_law_78 : decode cL_law 78 = .ok (.iadd, 1) := by decide +kernel
theorem dL_law_79 : decode cL_law 79 = .ok (.iaload, 1) := by decide +kernel
theorem dL_law_80 : decode cL_law 80 = .ok (.aload_n 0, 1) := by decide +kernel
theorem dL_law_81 : decode cL_law 81 = .ok (.iload_n 3, 1) := by decide +kernel
theorem dL_law_82 : decode cL_law 82 = .ok (.iconst 2, 1) := by decide +kernel
theorem dL_law_83 : decode cL_law 83 = .ok (.iadd, 1) := by decide +kernel
theorem dL_law_84 : decode cL_law 84 = .ok (.iaload, 1) := by decide +kernel
theorem dL_law_85 : decode cL_law 85 = .ok (.invokevirtual 17, 3) := by decide +kernel
theorem dL_law_88 : decode cL_law 88 = .ok (.if_icmp .eq 38, 3) := by decide +kernel
theorem dL_law_91 : decode cL_law 91 = .ok (.iconst 0, 1) := by decide +kernel
theorem dL_law_92 : decode cL_law 92 = .ok (.ireturn, 1) := by decide +kernel
theorem dL_law_93 : decode cL_law 93 = .ok (.aload_n 1, 1) := by decide +kernel
theorem dL_law_94 : decode cL_law 94 = .ok (.aload_n 0, 1) := by decide +kernel
theorem dL_law_95 : decode cL_law 95 = .ok (.iload_n 3, 1) := by decide +kernel
theorem dL_law_96 : decode cL_law 96 = .ok (.iconst 1, 1) := by decide +kernel
theorem dL_law_97 : decode cL_law 97 = .ok (.iadd, 1) := by decide +kernel
theorem dL_law_98 : decode cL_law 98 = .ok (.iaload, 1) := by decide +kernel
theorem dL_law_99 : decode cL_law 99 = .ok (.aload_n 0, 1) := by decide +kernel
theorem dL_law_100 : decode cL_law 100 = .ok (.iload_n 3, 1) := by decide +kernel
theorem dL_law_101 : decode cL_law 101 = .ok (.iconst 2, 1) := by decide +kernel
theorem dL_law_102 : decode cL_law 102 = .ok (.iadd, 1) := by decide +kernel
theorem dL_law_103 : decode cL_law 103 = .ok (.iaload, 1) := by decide +kernel
theorem dL_law_104 : decode cL_law 104 = .ok (.invokevirtual 18, 3) := by decide +kernel
theorem dL_law_107 : decode cL_law 107 = .ok (.aload_n 2, 1) := by decide +kernel
theorem dL_law_108 : decode cL_law 108 = .ok (.aload_n 0, 1) := by decide +kernel
theorem dL_law_109 : decode cL_law 109 = .ok (.iload_n 3, 1) := by decide +kernel
theorem dL_law_110 : decode cL_law 110 = .ok (.iconst 1, 1) := by decide +kernel
theorem dL_law_111 : decode cL_law 111 = .ok (.iadd, 1) := by decide +kernel
theorem dL_law_112 : decode cL_law 112 = .ok (.iaload, 1) := by decide +kernel
theorem dL_law_113 : decode cL_law 113 = .ok (.aload_n 0, 1) := by decide +kernel
theorem dL_law_114 : decode cL_law 114 = .ok (.iload_n 3, 1) := by decide +kernel
theorem dL_law_115 : decode cL_law 115 = .ok (.iconst 2, 1) := by decide +kernel
theorem dL_law_116 : decode cL_law 116 = .ok (.iadd, 1) := by decide +kernel
theorem dL_law_117 : decode cL_law 117 = .ok (.iaload, 1) := by decide +kernel
theorem dL_law_118 : decode cL_law 118 = .ok (.invokevirtual 21, 3) := by decide +kernel
theorem dL_law_121 : decode cL_law 121 = .ok (.if_icmp .eq 5, 3) := by decide +kernel
theorem dL_law_124 : decode cL_law 124 = .ok (.iconst 0, 1) := by decide +kernel
theorem dL_law_125 : decode cL_law 125 = .ok (.ireturn, 1) := by decide +kernel
theorem dL_law_126 : decode cL_law 126 = .ok (.iinc 3 6, 3) := by decide +kernel
theorem dL_law_129 : decode cL_law 129 = .ok (.goto (-111), 3) := by decide +kernel
theorem dL_law_132 : decode cL_law 132 = .ok (.iconst 1, 1) := by decide +kernel
theorem dL_law_133 : decode cL_law 133 = .ok (.ireturn, 1) := by decide +kernel
end
section
/-! the plain laws, no program in sight: how many bits are set; the code words; the nearest word -/
/-- how many of the first i bits of n are set -/
def fw_pn (n : Nat) : Nat → Nat
  | 0 => 0
  | i + 1 => fw_pn n i + n / 2 ^ i % 2
/-- how many bits of x are set -/
def fw_P (x : Int32) : Nat := fw_pn x.toBitVec.toNat 32
theorem fw_pn_le (n : Nat) (i : Nat) : fw_pn n i ≤ i := by
  induction i with
  | zero => exact Nat.le_refl 0
  | succ i ih =>
    have h2 : n / 2 ^ i % 2 < 2 := Nat.mod_lt _ (by decide)
    show fw_pn n i + n / 2 ^ i % 2 ≤ i + 1
    omega
theorem fw_P_le (x : Int32) : fw_P x ≤ 32 := fw_pn_le _ 32
theorem fw_pn_0 (i : Nat) : fw_pn 0 i = 0 := by
  induction i with
  | zero => rfl
  | succ i ih =>
    show fw_pn 0 i + 0 / 2 ^ i % 2 = 0
    rw [ih, Nat.zero_div]
theorem fw_pn_zero (n : Nat) (i : Nat) (h : fw_pn n i = 0) : n % 2 ^ i = 0 := by
  induction i with
  | zero => exact Nat.mod_one n
  | succ i ih =>
    have h1 : fw_pn n i + n / 2 ^ i % 2 = 0 := h
    have h2 := ih (by omega)
    have h3 : n / 2 ^ i % 2 = 0 := by omega
    rw [Nat.pow_succ, Nat.mod_mul, h2, h3]
    rfl
theorem fw_toN {x y : Int32} (h : x.toBitVec.toNat = y.toBitVec.toNat) : x = y := Int32.toBitVec_inj.mp (BitVec.eq_of_toNat_eq h)
theorem fw_P_zero {x : Int32} (h : fw_P x = 0) : x = 0 := by
  have h1 := fw_pn_zero _ _ h
  have h2 : x.toBitVec.toNat < 2 ^ 32 := x.toBitVec.isLt
  rw [Nat.mod_eq_of_lt h2] at h1
  exact fw_toN (by rw [h1]; rfl)
theorem fw_P_0 : fw_P 0 = 0 := fw_pn_0 32
theorem fw_xor0 {x y : Int32} (h : x ^^^ y = 0) : x = y := by
  apply Int32.toBitVec_inj.mp
  apply BitVec.eq_of_getLsbD_eq
  intro i hi
  have h1 : (x ^^^ y).toBitVec.getLsbD i = (0 : Int32).toBitVec.getLsbD i := by rw [h]
  rw [Int32.toBitVec_xor, BitVec.getLsbD_xor] at h1
  have h2 : (0 : Int32).toBitVec.getLsbD i = false := BitVec.getLsbD_zero
  rw [h2] at h1
  cases h3 : x.toBitVec.getLsbD i <;> cases h4 : y.toBitVec.getLsbD i <;> simp_all
theorem fw_xorS (x : Int32) : x ^^^ x = 0 := by
  apply Int32.toBitVec_inj.mp
  rw [Int32.toBitVec_xor, BitVec.xor_self]
  rfl
theorem fw_xorC (x y : Int32) : x ^^^ y = y ^^^ x := by
  apply Int32.toBitVec_inj.mp
  rw [Int32.toBitVec_xor, Int32.toBitVec_xor, BitVec.xor_comm]
/-- the bits of a number that is put together out of two -/
theorem fw_pn_low {a b k : Nat} (i : Nat) (hi : i ≤ k) : fw_pn (a + 2 ^ k * b) i = fw_pn a i := by
  induction i with
  | zero => rfl
  | succ i ih =>
    show fw_pn (a + 2 ^ k * b) i + (a + 2 ^ k * b) / 2 ^ i % 2 = fw_pn a i + a / 2 ^ i % 2
    rw [ih (by omega)]
    have e : 2 ^ k * b = 2 ^ i * (2 * (2 ^ (k - i - 1) * b)) := by
      have e1 : 2 ^ k = 2 ^ i * (2 * 2 ^ (k - i - 1)) := by
        rw [← Nat.pow_succ', ← Nat.pow_add]
        congr 1
        omega
      rw [e1, Nat.mul_assoc, Nat.mul_assoc]
    rw [e, Nat.add_mul_div_left _ _ (Nat.two_pow_pos i), Nat.add_mul_mod_self_left]
theorem fw_pn_add {a b k : Nat} (ha : a < 2 ^ k) (w : Nat) : fw_pn (a + 2 ^ k * b) (k + w) = fw_pn a k + fw_pn b w := by
  induction w with
  | zero => exact fw_pn_low k (Nat.le_refl k)
  | succ w ih =>
    show fw_pn (a + 2 ^ k * b) (k + w) + (a + 2 ^ k * b) / 2 ^ (k + w) % 2 = fw_pn a k + (fw_pn b w + b / 2 ^ w % 2)
    have e : (a + 2 ^ k * b) / 2 ^ (k + w) = b / 2 ^ w := by
      rw [Nat.pow_add, ← Nat.div_div_eq_div_mul, Nat.add_mul_div_left _ _ (Nat.two_pow_pos k), Nat.div_eq_of_lt ha, Nat.zero_add]
    rw [ih, e, Nat.add_assoc]
/-- 'and' byte by byte -/
theorem fw_and (a b c d : Nat) (ha : a < 256) (hc : c < 256) : (a + 256 * b) &&& (c + 256 * d) = (a &&& c) + 256 * (b &&& d) := by
  apply Nat.eq_of_testBit_eq
  intro j
  have h1 : a &&& c < 2 ^ 8 := Nat.and_lt_two_pow a hc
  have e1 : a + 256 * b = 2 ^ 8 * b + a := by omega
  have e2 : c + 256 * d = 2 ^ 8 * d + c := by omega
  have e3 : (a &&& c) + 256 * (b &&& d) = 2 ^ 8 * (b &&& d) + (a &&& c) := by omega
  rw [e1, e2, e3, Nat.testBit_and, Nat.testBit_two_pow_mul_add b (i := 8) ha, Nat.testBit_two_pow_mul_add d (i := 8) hc, Nat.testBit_two_pow_mul_add (b &&& d) (i := 8) h1]
  by_cases hj : j < 8
  · simp only [hj, if_true, Nat.testBit_and]
  · simp only [hj, if_false, Nat.testBit_and]
theorem fw_and4 (a0 a1 a2 a3 m : Nat) (h0 : a0 < 256) (h1 : a1 < 256) (h2 : a2 < 256) (h3 : a3 < 256) (hm : m < 256) : (a0 + 256 * (a1 + 256 * (a2 + 256 * a3))) &&& (m + 256 * (m + 256 * (m + 256 * m))) = (a0 &&& m) + 256 * ((a1 &&& m) + 256 * ((a2 &&& m) + 256 * (a3 &&& m))) := by
  rw [fw_and _ _ _ _ h0 hm, fw_and _ _ _ _ h1 hm, fw_and _ _ _ _ h2 hm]
/-- the three steps of the count, a byte alone -/
def fw_ga (b : Nat) : Nat := b - (b / 2 &&& 85)
def fw_ge (a : Nat) : Nat := (a &&& 51) + (a / 4 &&& 51)
theorem fw_y1 : ∀ b, b < 256 → ∀ t, t < 2 → (b / 2 + 128 * t) &&& 85 = b / 2 &&& 85 := by decide +kernel
theorem fw_y2 : ∀ b, b < 256 → (b / 2 &&& 85) ≤ b ∧ fw_ga b < 256 := by decide +kernel
theorem fw_y3 : ∀ b, b < 256 → ∀ t, t < 4 → (b / 4 + 64 * t) &&& 51 = b / 4 &&& 51 := by decide +kernel
theorem fw_y4 : ∀ b, b < 256 → fw_ge (fw_ga b) ≤ 68 ∧ fw_ge (fw_ga b) % 16 ≤ 4 := by decide +kernel
theorem fw_y5 : ∀ b, b < 256 → ∀ t, t < 16 → (fw_ge (fw_ga b) + fw_ge (fw_ga b) / 16 + 16 * t) &&& 15 = fw_pn b 8 := by decide +kernel
/-- the count of Integer.bitCount, over numbers -/
theorem fw_swarN (n a e c d f : Nat) (hn : n < 2 ^ 32) (ha : a = n - (n / 2 &&& 1431655765)) (he : e = (a &&& 858993459) + (a / 4 &&& 858993459)) (hc : c = (e + e / 16) &&& 252645135) (hd : d = c + c / 256) (hf : f = d + d / 65536) :
    (n / 2 &&& 1431655765) ≤ n ∧ e < 2 ^ 32 ∧ e + e / 16 < 2 ^ 32 ∧ d < 2 ^ 32 ∧ f < 2 ^ 32 ∧ f % 64 = fw_pn n 32 := by
  obtain ⟨n0, n1, n2, n3, k0, k1, k2, k3, en⟩ : ∃ n0 n1 n2 n3 : Nat, n0 < 256 ∧ n1 < 256 ∧ n2 < 256 ∧ n3 < 256 ∧ n = n0 + 256 * (n1 + 256 * (n2 + 256 * n3)) :=
    ⟨n % 256, n / 256 % 256, n / 65536 % 256, n / 16777216, by omega, by omega, by omega, by omega, by omega⟩
  have m1 : (1431655765 : Nat) = 85 + 256 * (85 + 256 * (85 + 256 * 85)) := rfl
  have m2 : (858993459 : Nat) = 51 + 256 * (51 + 256 * (51 + 256 * 51)) := rfl
  have m3 : (252645135 : Nat) = 15 + 256 * (15 + 256 * (15 + 256 * 15)) := rfl
  -- the first step
  have s1 : n / 2 = (n0 / 2 + 128 * (n1 % 2)) + 256 * ((n1 / 2 + 128 * (n2 % 2)) + 256 * ((n2 / 2 + 128 * (n3 % 2)) + 256 * (n3 / 2 + 128 * 0))) := by omega
  have s2 : n / 2 &&& 1431655765 = (n0 / 2 &&& 85) + 256 * ((n1 / 2 &&& 85) + 256 * ((n2 / 2 &&& 85) + 256 * (n3 / 2 &&& 85))) := by
    rw [s1, m1, fw_and4 _ _ _ _ 85 (by omega) (by omega) (by omega) (by omega) (by omega), fw_y1 n0 k0 _ (by omega), fw_y1 n1 k1 _ (by omega), fw_y1 n2 k2 _ (by omega), fw_y1 n3 k3 0 (by omega)]
  have a0 := fw_y2 n0 k0
  have a1 := fw_y2 n1 k1
  have a2 := fw_y2 n2 k2
  have a3 := fw_y2 n3 k3
  have s3 : a = fw_ga n0 + 256 * (fw_ga n1 + 256 * (fw_ga n2 + 256 * fw_ga n3)) := by
    rw [ha, s2, en]
    unfold fw_ga
    omega
  have s4 : (n / 2 &&& 1431655765) ≤ n := by
    rw [s2, en]
    omega
  -- the second
  have s5 : a / 4 = (fw_ga n0 / 4 + 64 * (fw_ga n1 % 4)) + 256 * ((fw_ga n1 / 4 + 64 * (fw_ga n2 % 4)) + 256 * ((fw_ga n2 / 4 + 64 * (fw_ga n3 % 4)) + 256 * (fw_ga n3 / 4 + 64 * 0))) := by omega
  have s6 : e = fw_ge (fw_ga n0) + 256 * (fw_ge (fw_ga n1) + 256 * (fw_ge (fw_ga n2) + 256 * fw_ge (fw_ga n3))) := by
    rw [he, s5, s3, m2, fw_and4 _ _ _ _ 51 (by omega) (by omega) (by omega) (by omega) (by omega), fw_and4 _ _ _ _ 51 (by omega) (by omega) (by omega) (by omega) (by omega), fw_y3 _ a0.2 _ (by omega), fw_y3 _ a1.2 _ (by omega), fw_y3 _ a2.2 _ (by omega), fw_y3 _ a3.2 0 (by omega)]
    unfold fw_ge
    omega
  have b0 := fw_y4 n0 k0
  have b1 := fw_y4 n1 k1
  have b2 := fw_y4 n2 k2
  have b3 := fw_y4 n3 k3
  have c0 := fw_y5 n0 k0 (fw_ge (fw_ga n1) % 16) (by omega)
  have c1 := fw_y5 n1 k1 (fw_ge (fw_ga n2) % 16) (by omega)
  have c2 := fw_y5 n2 k2 (fw_ge (fw_ga n3) % 16) (by omega)
  have c3 := fw_y5 n3 k3 0 (by omega)
  generalize fw_ge (fw_ga n0) = e0 at s6 b0 c0 c1 c2 c3
  generalize fw_ge (fw_ga n1) = e1 at s6 b1 c0 c1 c2 c3
  generalize fw_ge (fw_ga n2) = e2 at s6 b2 c0 c1 c2 c3
  generalize fw_ge (fw_ga n3) = e3 at s6 b3 c0 c1 c2 c3
  -- the third
  have s7 : e + e / 16 = (e0 + e0 / 16 + 16 * (e1 % 16)) + 256 * ((e1 + e1 / 16 + 16 * (e2 % 16)) + 256 * ((e2 + e2 / 16 + 16 * (e3 % 16)) + 256 * (e3 + e3 / 16 + 16 * 0))) := by omega
  have s8 : c = fw_pn n0 8 + 256 * (fw_pn n1 8 + 256 * (fw_pn n2 8 + 256 * fw_pn n3 8)) := by
    rw [hc, s7, m3, fw_and4 _ _ _ _ 15 (by omega) (by omega) (by omega) (by omega) (by omega), c0, c1, c2, c3]
  have p0 := fw_pn_le n0 8
  have p1 := fw_pn_le n1 8
  have p2 := fw_pn_le n2 8
  have p3 := fw_pn_le n3 8
  have s9 : fw_pn n 32 = fw_pn n0 8 + (fw_pn n1 8 + (fw_pn n2 8 + fw_pn n3 8)) := by
    rw [en]
    have q1 : fw_pn (n0 + 2 ^ 8 * (n1 + 256 * (n2 + 256 * n3))) (8 + 24) = fw_pn n0 8 + fw_pn (n1 + 256 * (n2 + 256 * n3)) 24 := fw_pn_add k0 24
    have q2 : fw_pn (n1 + 2 ^ 8 * (n2 + 256 * n3)) (8 + 16) = fw_pn n1 8 + fw_pn (n2 + 256 * n3) 16 := fw_pn_add k1 16
    have q3 : fw_pn (n2 + 2 ^ 8 * n3) (8 + 8) = fw_pn n2 8 + fw_pn n3 8 := fw_pn_add k2 8
    exact q1.trans (by rw [show fw_pn (n1 + 256 * (n2 + 256 * n3)) 24 = _ from q2, show fw_pn (n2 + 256 * n3) 16 = _ from q3])
  rw [s9]
  clear ha he hc s2 s3 s5 c0 c1 c2 c3 s9 m1 m2 m3
  generalize fw_pn n0 8 = x0 at s8 p0 ⊢
  generalize fw_pn n1 8 = x1 at s8 p1 ⊢
  generalize fw_pn n2 8 = x2 at s8 p2 ⊢
  generalize fw_pn n3 8 = x3 at s8 p3 ⊢
  have t1 : c / 256 = x1 + 256 * (x2 + 256 * x3) := by omega
  have t2 : d = (x0 + x1) + 256 * ((x1 + x2) + 256 * ((x2 + x3) + 256 * x3)) := by omega
  have t3 : d / 65536 = (x2 + x3) + 256 * x3 := by omega
  have t4 : f = (x0 + (x1 + (x2 + x3))) + 64 * (4 * (x1 + x2 + x3 + 256 * ((x2 + x3) + 256 * x3))) := by omega
  have t5 : f % 64 = x0 + (x1 + (x2 + x3)) := by
    rw [t4, Nat.add_mul_mod_self_left]
    exact Nat.mod_eq_of_lt (by omega)
  refine ⟨s4, by omega, by omega, by omega, by omega, t5⟩
/-- the shift of a Java int without its sign -/
def fw_us (x s : Int32) : Int32 := (x.toUInt32 >>> (s.toUInt32 &&& Int32.toUInt32 31)).toInt32
theorem fw_us_N (x s : Int32) (k : Nat) (hs : ((s.toUInt32 &&& Int32.toUInt32 31).toBitVec % 32).toNat = k) : (fw_us x s).toBitVec.toNat = x.toBitVec.toNat / 2 ^ k := pk_ushr x s k hs
theorem fw_N_add {x y : Int32} (h : x.toBitVec.toNat + y.toBitVec.toNat < 2 ^ 32) : (x + y).toBitVec.toNat = x.toBitVec.toNat + y.toBitVec.toNat := by
  rw [Int32.toBitVec_add, BitVec.toNat_add, Nat.mod_eq_of_lt h]
theorem fw_N_sub {x y : Int32} (h : y.toBitVec.toNat ≤ x.toBitVec.toNat) : (x - y).toBitVec.toNat = x.toBitVec.toNat - y.toBitVec.toNat := by
  have h2 : x.toBitVec.toNat < 2 ^ 32 := x.toBitVec.isLt
  rw [Int32.toBitVec_sub, BitVec.toNat_sub]
  omega
theorem fw_N_and (x y : Int32) : (x &&& y).toBitVec.toNat = x.toBitVec.toNat &&& y.toBitVec.toNat := by
  rw [Int32.toBitVec_and, BitVec.toNat_and]
/-- Integer.bitCount's five lines -/
theorem fw_swar (x a e c d f : Int32) (ha : a = x - (fw_us x 1 &&& 1431655765)) (he : e = (a &&& 858993459) + (fw_us a 2 &&& 858993459)) (hc : c = (e + fw_us e 4) &&& 252645135) (hd : d = c + fw_us c 8) (hf : f = d + fw_us d 16) : f &&& 63 = nI (fw_P x) := by
  have m1 : (1431655765 : Int32).toBitVec.toNat = 1431655765 := by decide +kernel
  have m2 : (858993459 : Int32).toBitVec.toNat = 858993459 := by decide +kernel
  have m3 : (252645135 : Int32).toBitVec.toNat = 252645135 := by decide +kernel
  have u1 := fw_us_N x 1 1 (by decide +kernel)
  have u2 := fw_us_N a 2 2 (by decide +kernel)
  have u4 := fw_us_N e 4 4 (by decide +kernel)
  have u8 := fw_us_N c 8 8 (by decide +kernel)
  have u16 := fw_us_N d 16 16 (by decide +kernel)
  have hn : x.toBitVec.toNat < 2 ^ 32 := x.toBitVec.isLt
  obtain ⟨g1, g2, g3, g4, g5, g6⟩ := fw_swarN x.toBitVec.toNat _ _ _ _ _ hn rfl rfl rfl rfl rfl
  have hA : a.toBitVec.toNat = x.toBitVec.toNat - (x.toBitVec.toNat / 2 &&& 1431655765) := by
    rw [ha, fw_N_sub (by rw [fw_N_and, u1, m1]; exact g1), fw_N_and, u1, m1]
  have hE : e.toBitVec.toNat = (a.toBitVec.toNat &&& 858993459) + (a.toBitVec.toNat / 4 &&& 858993459) := by
    rw [he, fw_N_add (by rw [fw_N_and, fw_N_and, u2, m2, hA]; exact g2), fw_N_and, fw_N_and, u2, m2]
  have hC : c.toBitVec.toNat = (e.toBitVec.toNat + e.toBitVec.toNat / 16) &&& 252645135 := by
    rw [hc, fw_N_and, m3, fw_N_add (by rw [u4, hE, hA]; exact g3), u4]
  have hD : d.toBitVec.toNat = c.toBitVec.toNat + c.toBitVec.toNat / 256 := by
    rw [hd, fw_N_add (by rw [u8, hC, hE, hA]; exact g4), u8]
  have hF : f.toBitVec.toNat = d.toBitVec.toNat + d.toBitVec.toNat / 65536 := by
    rw [hf, fw_N_add (by rw [u16, hD, hC, hE, hA]; exact g5), u16]
  rw [pk_and f 6 (m := 63) (by decide +kernel)]
  congr 1
  rw [hF, hD, hC, hE, hA]
  exact g6
/-- one bit of it -/
theorem fw_bit (x : Int32) (i : Nat) (hi : i < 32) : fw_us x (nI i) &&& 1 = nI (x.toBitVec.toNat / 2 ^ i % 2) := by
  rw [pk_and (fw_us x (nI i)) 1 (m := 1) (by decide +kernel), fw_us_N x (nI i) i ((by decide +kernel : ∀ n, n < 32 → (((nI n).toUInt32 &&& Int32.toUInt32 31).toBitVec % 32).toNat = n) i hi)]
/-! the word of five bits -/
def fw_ws (r : Int32) (i : Nat) : Int32 := if (r >>> (nI i &&& 31)) &&& 1 = 0 then r else r ^^^ ((1335 : Int32) <<< ((nI i - 10) &&& 31))
def fw_wl : Nat → Int32 → Int32
  | 0, r => r
  | n + 1, r => fw_wl n (fw_ws r (n + 10))
def fw_W (d : Nat) : Int32 := ((nI d <<< ((10 : Int32) &&& 31)) ||| fw_wl 5 (nI d <<< ((10 : Int32) &&& 31))) ^^^ 21522
/-! the nearest word: the first of the least distances -/
def fw_f (a b : Int32) (d : Nat) : Nat := if fw_P (fw_W d ^^^ a) < fw_P (fw_W d ^^^ b) then fw_P (fw_W d ^^^ a) else fw_P (fw_W d ^^^ b)
def fw_g (f : Nat → Nat) : Nat → Nat × Nat
  | 0 => (99, 0)
  | i + 1 => if f i < (fw_g f i).1 then (f i, i) else fw_g f i
theorem fw_g_s (f : Nat → Nat) (i : Nat) : fw_g f (i + 1) = if f i < (fw_g f i).1 then (f i, i) else fw_g f i := rfl
def fw_near (a b : Int32) : Option Nat := if (fw_g (fw_f a b) 32).1 ≤ 3 then some (fw_g (fw_f a b) 32).2 else none
def fw_ans : Option Nat → Int32
  | some d => nI d
  | none => -1
/-- what the whole search finds: as the words stand, then under the mask -/
def fw_dec (a b : Int32) : Option Nat := match fw_near a b with
  | some d => some d
  | none => fw_near (a ^^^ 21522) (b ^^^ 21522)
theorem fw_f_le (a b : Int32) (d : Nat) : fw_f a b d ≤ 32 := by
  have h1 := fw_P_le (fw_W d ^^^ a)
  have h2 := fw_P_le (fw_W d ^^^ b)
  unfold fw_f
  split <;> omega
theorem fw_f_hit {a b : Int32} {d : Nat} (h : fw_W d = a ∨ fw_W d = b) : fw_f a b d = 0 := by
  unfold fw_f
  rcases h with h | h
  · have e : fw_P (fw_W d ^^^ a) = 0 := by rw [h, fw_xorS]; exact fw_P_0
    split <;> omega
  · have e : fw_P (fw_W d ^^^ b) = 0 := by rw [h, fw_xorS]; exact fw_P_0
    split <;> omega
theorem fw_f_miss {a b : Int32} {d : Nat} (h1 : ¬ fw_W d = a) (h2 : ¬ fw_W d = b) : fw_f a b d ≠ 0 := by
  have e1 : fw_P (fw_W d ^^^ a) ≠ 0 := fun h => h1 (fw_xor0 (fw_P_zero h))
  have e2 : fw_P (fw_W d ^^^ b) ≠ 0 := fun h => h2 (fw_xor0 (fw_P_zero h))
  unfold fw_f
  split <;> assumption
theorem fw_g_in (f : Nat → Nat) (i : Nat) (hi : i ≤ 32) : (fw_g f i).2 < 32 := by
  induction i with
  | zero => exact (by decide : 0 < 32)
  | succ i ih =>
    rw [fw_g_s]
    split
    · show i < 32
      omega
    · exact ih (by omega)
theorem fw_g_99 (f : Nat → Nat) (i : Nat) : (fw_g f i).1 ≤ 99 := by
  induction i with
  | zero => exact Nat.le_refl 99
  | succ i ih =>
    rw [fw_g_s]
    split
    · show f i ≤ 99
      omega
    · exact ih
theorem fw_g_pos (f : Nat → Nat) (i : Nat) (h : ∀ k, k < i → f k ≠ 0) : (fw_g f i).1 ≠ 0 := by
  induction i with
  | zero => exact (by decide : 99 ≠ 0)
  | succ i ih =>
    rw [fw_g_s]
    split
    · exact h i (Nat.lt_succ_self i)
    · exact ih (fun k hk => h k (Nat.lt_succ_of_lt hk))
theorem fw_g_stay (f : Nat → Nat) (i : Nat) (h0 : f i = 0) (h : ∀ k, k < i → f k ≠ 0) (j : Nat) : fw_g f (i + 1 + j) = (0, i) := by
  induction j with
  | zero =>
    have h1 := fw_g_pos f i h
    show fw_g f (i + 1) = (0, i)
    rw [fw_g_s, if_pos (by omega), h0]
  | succ j ih =>
    show fw_g f ((i + 1 + j) + 1) = (0, i)
    rw [fw_g_s, ih, if_neg (by show ¬ f (i + 1 + j) < 0; omega)]
theorem fw_near_in {a b : Int32} {d : Nat} (h : fw_near a b = some d) : d < 32 := by
  unfold fw_near at h
  split at h
  · rw [← Option.some.inj h]
    exact fw_g_in _ 32 (Nat.le_refl 32)
  · cases h
theorem fw_near_hit {a b : Int32} {i : Nat} (hi : i < 32) (h0 : fw_f a b i = 0) (h : ∀ k, k < i → fw_f a b k ≠ 0) : fw_near a b = some i := by
  have e := fw_g_stay (fw_f a b) i h0 h (31 - i)
  rw [show i + 1 + (31 - i) = 32 by omega] at e
  unfold fw_near
  rw [e]
  rfl
theorem fw_dec_in {a b : Int32} {d : Nat} (h : fw_dec a b = some d) : d < 32 := by
  unfold fw_dec at h
  split at h
  · rename_i d0 h0
    rw [← Option.some.inj h]
    exact fw_near_in h0
  · exact fw_near_in h
/-- the best that the search over the table has, while no word is hit -/
def fw_b (f : Nat → Nat) (i : Nat) : Nat := if i = 0 then 2147483647 else (fw_g f i).1
theorem fw_b_lt (f : Nat → Nat) (i : Nat) : fw_b f i < 2 ^ 31 := by
  have h := fw_g_99 f i
  unfold fw_b
  split <;> omega
theorem fw_b_s (f : Nat → Nat) (i : Nat) : fw_b f (i + 1) = (fw_g f (i + 1)).1 := if_neg (Nat.succ_ne_zero i)
/-- a better one -/
theorem fw_s1 {f : Nat → Nat} {i v : Nat} (hv : f i = v) (h32 : v ≤ 32) (h : v < fw_b f i) : fw_b f (i + 1) = v ∧ (fw_g f (i + 1)).2 = i := by
  have h1 : f i < (fw_g f i).1 := by
    unfold fw_b at h
    split at h
    · rename_i h0
      subst h0
      show f 0 < 99
      omega
    · omega
  rw [fw_b_s, fw_g_s, if_pos h1]
  exact ⟨hv, rfl⟩
/-- none better -/
theorem fw_s0 {f : Nat → Nat} {i : Nat} (h32 : f i ≤ 32) (h : ¬ f i < fw_b f i) : fw_b f (i + 1) = fw_b f i ∧ (fw_g f (i + 1)).2 = (fw_g f i).2 := by
  have h0 : i ≠ 0 := by
    intro e
    subst e
    exact h (by show f 0 < 2147483647; omega)
  have e : fw_b f i = (fw_g f i).1 := if_neg h0
  rw [e] at h
  rw [fw_b_s, e, fw_g_s, if_neg h]
  exact ⟨rfl, rfl⟩
/-- which of them the reference has, -1 ahead of the first -/
def fw_wh (f : Nat → Nat) (i : Nat) : Int32 := if i = 0 then -1 else nI (fw_g f i).2
theorem fw_wh_s (f : Nat → Nat) (i : Nat) : fw_wh f (i + 1) = nI (fw_g f (i + 1)).2 := if_neg (Nat.succ_ne_zero i)
theorem fw_wh0 {f : Nat → Nat} {i : Nat} (h32 : f i ≤ 32) (h : ¬ f i < (fw_g f i).1) : fw_wh f (i + 1) = fw_wh f i := by
  have h0 : i ≠ 0 := by
    intro e
    subst e
    exact h (by show f 0 < 99; omega)
  rw [fw_wh_s, fw_g_s, if_neg h]
  exact (if_neg h0).symm
theorem fw_near_le {a b : Int32} (h : (fw_g (fw_f a b) 32).1 ≤ 3) : fw_near a b = some (fw_g (fw_f a b) 32).2 := if_pos h
theorem fw_near_gt {a b : Int32} (h : ¬ (fw_g (fw_f a b) 32).1 ≤ 3) : fw_near a b = none := if_neg h
/-! numbers below 32, below 8 -/
theorem fw_n1 : ∀ d, d < 32 → (nI d >>> ((3 : Int32) &&& 31)) &&& 3 = nI (d / 8) := by decide +kernel
theorem fw_n2 : ∀ d, d < 32 → (nI d &&& 7).toInt8.toInt32 = nI (d % 8) := by decide +kernel
theorem fw_n3 : ∀ d, d < 32 → (nI (d / 8) <<< ((3 : Int32) &&& 31)) ||| nI (d % 8) = nI d := by decide +kernel
theorem fw_n4 : ∀ k, k < 8 → nI k = (nI k).toInt8.toInt32 := by decide +kernel
theorem fw_n5 {k : Nat} (h : k < 8) : narrow .byte (.int (nI k)) = .int (nI k) := by
  rw [fw_n4 k h]
  exact pk_nb _
theorem fw_n6 {k : Nat} (h : k < 8) : fits .byte (.int (nI k)) = true := by
  rw [fw_n4 k h]
  exact pk_fb _
end
section
/-! the world: what the statics hold (nobody writes there); the classes whose objects are made; rows for a table of tables -/
def TX0 : u_T := fun _ => ("FormatWord", "", "I", false)
def TX1 : u_T := fun _ => ("FormatWordModel", "", "I", false)
def tyX0 : Nat → FieldType := fun _ => .int
theorem tyX0_ok : ∀ k, k < 0 → parseFieldDescriptor (TX0 k).2.2.1 = some (tyX0 k) := fun k h => absurd h (Nat.not_lt_zero k)
theorem tyX1_ok : ∀ k, k < 0 → parseFieldDescriptor (TX1 k).2.2.1 = some (tyX0 k) := fun k h => absurd h (Nat.not_lt_zero k)
theorem in_X0 : ∀ w ∈ u_ws RX0 TX0 0, w ∈ lw_all := fun w h => absurd h List.not_mem_nil
theorem in_X1 : ∀ w ∈ u_ws RX1 TX1 0, w ∈ lw_all := fun w h => absurd h List.not_mem_nil
abbrev fw_cl : List vw_C := [(RX0, TX0, 0), (RX1, TX1, 0), (RX2, TX2, 2)]
/-- a FormatInformation made of the five bits d: which constant, and the mask -/
abbrev fw_E (ad : Nat → Nat) (d : Nat) : va_E := .inr (2, [.ref (ad (d / 8)), .int (nI (d % 8))])
abbrev fw_E0 : va_E := .inr (2, [.null, .int 0])
/-- the constants of the enum, in the order of their bits -/
def fw_nm : List String := ["M", "L", "H", "Q"]
def fw_F : List (String × String × String × List Int32) := [("ErrorCorrectionLevel", "bits", "I", [0, 1, 2, 3])]
/-- a row of the table of words -/
def fw_row (j k : Nat) : Value := if k = 0 then .int (fw_W j) else .int (nI j)
/-- what the statics hold: the table of words at tT (its rows at rw 0 ..), the list of constants at tF, the constants at ad 0 .. ad 3 -/
def fw_C (tT : Nat) (rw : Nat → Nat) (tF : Nat) (ad : Nat → Nat) (A : Nat → Prop) (U : State) (H : Heap) : Prop :=
  va_Z "FormatInformation" "FORMAT_INFO_DECODE_LOOKUP" "[[I" (.ref tT) A U H ∧ va_T (.array .int) tT 32 (fun j => .ref (rw j)) A U H ∧ (∀ j, j < 32 → va_T .int (rw j) 2 (fw_row j) A U H) ∧ va_Z "ErrorCorrectionLevel" "FOR_BITS" "[LErrorCorrectionLevel;" (.ref tF) A U H ∧ va_T (.object "ErrorCorrectionLevel") tF 4 (fun j => .ref (ad j)) A U H ∧ va_En "ErrorCorrectionLevel" "LErrorCorrectionLevel;" fw_nm fw_F ad A U H
theorem fw_C.moved {tT : Nat} {rw : Nat → Nat} {tF : Nat} {ad : Nat → Nat} {A : Nat → Prop} {u U : State} {H : Heap} (hvm : u.vm.Alike U.vm) (h : fw_C tT rw tF ad A u H) : fw_C tT rw tF ad A U H :=
  ⟨va_Z.moved hvm h.1, va_T.moved hvm h.2.1, fun j hj => va_T.moved hvm (h.2.2.1 j hj), va_Z.moved hvm h.2.2.2.1, va_T.moved hvm h.2.2.2.2.1, va_En.moved hvm h.2.2.2.2.2⟩
theorem fw_C.kept {tT : Nat} {rw : Nat → Nat} {tF : Nat} {ad : Nat → Nat} {A : Nat → Prop} {U : State} {H H1 : Heap} (h : fw_C tT rw tF ad A U H) (hq : ∀ a : Nat, a < H.size → ¬ A a → H1[a]? = H[a]?) : fw_C tT rw tF ad A U H1 :=
  ⟨h.1.kept hq, h.2.1.kept hq, fun j hj => (h.2.2.1 j hj).kept hq, h.2.2.2.1.kept hq, h.2.2.2.2.1.kept hq, h.2.2.2.2.2.kept hq⟩
theorem fw_C.narrow {tT : Nat} {rw : Nat → Nat} {tF : Nat} {ad : Nat → Nat} {A B : Nat → Prop} {U : State} {H : Heap} (h : fw_C tT rw tF ad A U H) (hAB : ∀ q, B q → A q) : fw_C tT rw tF ad B U H :=
  ⟨h.1.narrow hAB, h.2.1.narrow hAB, fun j hj => (h.2.2.1 j hj).narrow hAB, h.2.2.2.1.narrow hAB, h.2.2.2.2.1.narrow hAB, h.2.2.2.2.2.narrow hAB⟩
/-- at a call: what the callee gets of it -/
theorem fw_C.give {tT : Nat} {rw : Nat → Nat} {tF : Nat} {ad : Nat → Nat} {A B : Nat → Prop} {s U : State} {H : Heap} {locs : List Loc} (h : fw_C tT rw tF ad A s s.heap) (hS : va_S A s.heap H locs) (hAB : ∀ q, B q → A q) (hU : U.heap = H) (hvm : s.vm.Alike U.vm) : fw_C tT rw tF ad B U U.heap := by
  rw [hU]
  exact ((h.kept hS.2.1).narrow hAB).moved hvm
/-- the receiver of a call stands there -/
def fw_Rv (C : String) (h0 : Nat) (U : State) (H : Heap) : Prop := ∃ cell : Cell, H[h0]? = some cell ∧ cell.vm.isStatics = false ∧ U.vm.findClass C = some cell.cls
theorem fw_Rv.moved {C : String} {h0 : Nat} {u U : State} {H : Heap} (hvm : u.vm.Alike U.vm) (h : fw_Rv C h0 u H) : fw_Rv C h0 U H := by
  obtain ⟨cell, h1, h2, h3⟩ := h
  exact ⟨cell, h1, h2, by rw [hvm.findClass]; exact h3⟩
theorem fw_Rv.give {C : String} {h0 : Nat} {s U : State} {H : Heap} (h : fw_Rv C h0 s H) (hU : U.heap = H) (hvm : s.vm.Alike U.vm) : fw_Rv C h0 U U.heap := by
  rw [hU]
  exact h.moved hvm
section FWT
variable {p : Program} {l : Launch} {e : Env} {R : Room} {s : State} {m : MethodId} {args : Array Value} {below : List Frame} {meth : Method} {c : Code} {H : Heap} {locs : List Loc} {cells slots : Nat} {Q : State → Prop}
variable {cc : ByteArray} {pc : Nat} {ls : Array Slot} {rest : List Value} {A : Nat → Prop} {t N : Nat} {f : Nat → Value}
/-- aaload out of a table of references -/
theorem fw_ta (hexec : p.tables.exec = Jvm.exec) (hb : c.code = cc) {ty : FieldType} (hty : ty.isReference = true) (hT : va_T ty t N f A s s.heap) (hS : va_S A s.heap H locs) {i : Int32} (hin : vp_in i N) {v : Value} (hv : f i.toNatClampNeg = v) (hdg : decode cc pc = .ok (.aaload, 1))
    (kk : W p l e R s m args below meth c H locs cells slots Q (F0 m (pc + 1) ls (v :: rest))) : W p l e R s m args below meth c H locs cells slots Q (F0 m pc ls (.int i :: .ref t :: rest)) := by
  obtain ⟨cell, h1, h2, h3, h4, h5, h6, h7⟩ := hT
  have hlt : i.toNatClampNeg < N := Nat.not_le.mp fun q => hin (Or.inr q)
  have hin' : ¬ (i < 0 ∨ cell.slots.size ≤ i.toNatClampNeg) := by
    intro q
    rcases q with q | q
    · exact hin (Or.inl q)
    · omega
  exact W.aald (v := v) (ty := ty) hexec hb (by rw [hS.2.1 t (Array.getElem?_eq_some_iff.mp h1).1 h7]; exact h1) h2 hty h3 hin' (by rw [h6 _ hlt, hv]) rfl rfl hdg kk
end FWT
/-- a pure method's start: its arguments -/
abbrev fw_pc (av : List Value) : Array Value → State → Prop := fun v _ => v = av.toArray
theorem fw_pre {s : State} {H : Heap} {av : List Value} : PreS s H (fw_pc av) av := ⟨fun _ _ _ _ q => q, fun _ _ _ => rfl⟩
end
section
/-! Integer.bitCount; the reference: word, apart, nearest, read: none writes anything -/
set_option maxHeartbeats 4000000 in
set_option maxRecDepth 100000 in
/-- Integer.bitCount(x): how many bits are set -/
theorem mt_bitCount (l : Launch) (x0 : Int32) : Met l yJ4_bitCount (ws_ yJ4_bitCount cJ4_bitCount 1 (some .int)) ({ frames := 0, cells := 0, slots := 0, locals := 0 }) (fw_pc [.int x0]) (vp_Si (fun r => r = nI (fw_P x0))) 0 0 (fun _ => False) := by
  refine Met.ofW (cc := cJ4_bitCount) (maxL := 1) (ret := (some .int)) (by decide) rfl ?_
  intro p e s m args below meth c s₁ B hml hv
  obtain rfl : args = ([.int x0] : List Value).toArray := hv
  have hx := B.exec
  have hb := B.bytes
  have hr := B.returns
  have hts := atoms_spec (ws := ws_ yJ4_bitCount cJ4_bitCount 1 (some .int)) B.pre
  have hts : ∀ w ∈ lw_all, w.before _ s = true := fun w h => hts w (List.mem_cons_of_mem _ h)
  have hown : s.vm.findClass RJ4 = some m.cls := findClass_of_methodNamed B.named
  have hlocks := B.notSynchronized
  have hl := lv_entry ([.int x0]) (n := 1) (Nat.le_of_ble_eq_true rfl)
  rw [lg_entry_eq]
  generalize (lg_sl ([.int x0]) ++ List.replicate (1 - (lg_sl ([.int x0])).length) Slot.unset).toArray = ls at hl ⊢
  have hl : lv_has ls 1 [(0, .int x0)] := hl
  refine lv_iload_n hx hb dJ4_bitCount_0 rfl (lv_at hl 0 rfl) ?_
  refine lv_iload_n hx hb dJ4_bitCount_1 rfl (lv_at hl 0 rfl) ?_
  refine lv_iconst (v := 1) hx hb dJ4_bitCount_2 (by decide) ?_
  refine lv_iushr (v := fw_us x0 1) hx hb dJ4_bitCount_3 rfl ?_
  refine lv_ldcw hx hb hown (hts _ q120) dJ4_bitCount_4 ?_
  refine lv_iand hx hb dJ4_bitCount_7 ?_
  refine lv_isub hx hb dJ4_bitCount_8 ?_
  refine lv_topi (fun x1 e1 => ?_)
  refine lv_istore_n (lv' := [(0, .int x1)]) hx hb dJ4_bitCount_9 rfl hl (by decide) rfl (fun ls hl => ?_)
  refine lv_iload_n hx hb dJ4_bitCount_10 rfl (lv_at hl 0 rfl) ?_
  refine lv_ldcw hx hb hown (hts _ q121) dJ4_bitCount_11 ?_
  refine lv_iand hx hb dJ4_bitCount_14 ?_
  refine lv_iload_n hx hb dJ4_bitCount_15 rfl (lv_at hl 0 rfl) ?_
  refine lv_iconst (v := 2) hx hb dJ4_bitCount_16 (by decide) ?_
  refine lv_iushr (v := fw_us x1 2) hx hb dJ4_bitCount_17 rfl ?_
  refine lv_ldcw hx hb hown (hts _ q121) dJ4_bitCount_18 ?_
  refine lv_iand hx hb dJ4_bitCount_21 ?_
  refine lv_iadd hx hb dJ4_bitCount_22 ?_
  refine lv_topi (fun x2 e2 => ?_)
  refine lv_istore_n (lv' := [(0, .int x2)]) hx hb dJ4_bitCount_23 rfl hl (by decide) rfl (fun ls hl => ?_)
  refine lv_iload_n hx hb dJ4_bitCount_24 rfl (lv_at hl 0 rfl) ?_
  refine lv_iload_n hx hb dJ4_bitCount_25 rfl (lv_at hl 0 rfl) ?_
  refine lv_iconst (v := 4) hx hb dJ4_bitCount_26 (by decide) ?_
  refine lv_iushr (v := fw_us x2 4) hx hb dJ4_bitCount_27 rfl ?_
  refine lv_iadd hx hb dJ4_bitCount_28 ?_
  refine lv_ldcw hx hb hown (hts _ q122) dJ4_bitCount_29 ?_
  refine lv_iand hx hb dJ4_bitCount_32 ?_
  refine lv_topi (fun x3 e3 => ?_)
  refine lv_istore_n (lv' := [(0, .int x3)]) hx hb dJ4_bitCount_33 rfl hl (by decide) rfl (fun ls hl => ?_)
  refine lv_iload_n hx hb dJ4_bitCount_34 rfl (lv_at hl 0 rfl) ?_
  refine lv_iload_n hx hb dJ4_bitCount_35 rfl (lv_at hl 0 rfl) ?_
  refine lv_bipush (v := 8) hx hb dJ4_bitCount_36 (by decide) ?_
  refine lv_iushr (v := fw_us x3 8) hx hb dJ4_bitCount_38 rfl ?_
  refine lv_iadd hx hb dJ4_bitCount_39 ?_
  refine lv_topi (fun x4 e4 => ?_)
  refine lv_istore_n (lv' := [(0, .int x4)]) hx hb dJ4_bitCount_40 rfl hl (by decide) rfl (fun ls hl => ?_)
  refine lv_iload_n hx hb dJ4_bitCount_41 rfl (lv_at hl 0 rfl) ?_
  refine lv_iload_n hx hb dJ4_bitCount_42 rfl (lv_at hl 0 rfl) ?_
  refine lv_bipush (v := 16) hx hb dJ4_bitCount_43 (by decide) ?_
  refine lv_iushr (v := fw_us x4 16) hx hb dJ4_bitCount_45 rfl ?_
  refine lv_iadd hx hb dJ4_bitCount_46 ?_
  refine lv_topi (fun x5 e5 => ?_)
  refine lv_istore_n (lv' := [(0, .int x5)]) hx hb dJ4_bitCount_47 rfl hl (by decide) rfl (fun ls hl => ?_)
  refine lv_iload_n hx hb dJ4_bitCount_48 rfl (lv_at hl 0 rfl) ?_
  refine lv_bipush (v := 63) hx hb dJ4_bitCount_49 (by decide) ?_
  refine lv_iand hx hb dJ4_bitCount_51 ?_
  exact W.iret (v := x5 &&& 63) hx hb hr (fun t ht hW => ⟨x5 &&& 63, rfl, fw_swar x0 x1 x2 x3 x4 x5 e1 e2 e3 e4 e5, ht⟩) (fun q h => by cases h) dJ4_bitCount_52
set_option maxHeartbeats 4000000 in
set_option maxRecDepth 100000 in
/-- FormatInformation.numBitsDiffering(a, b) -/
theorem mt_numBits (l : Launch) (a0 b0 : Int32) : Met l yX2_numBitsDiffering (ws_ yX2_numBitsDiffering cX2_numBitsDiffering 2 (some .int)) ({ frames := 1, cells := 0, slots := 0, locals := 20 }) (fw_pc [.int a0, .int b0]) (vp_Si (fun r => r = nI (fw_P (a0 ^^^ b0)))) 0 0 (fun _ => False) := by
  refine Met.ofW (cc := cX2_numBitsDiffering) (maxL := 2) (ret := (some .int)) (by decide) rfl ?_
  intro p e s m args below meth c s₁ B hml hv
  obtain rfl : args = ([.int a0, .int b0] : List Value).toArray := hv
  have hx := B.exec
  have hb := B.bytes
  have hr := B.returns
  have hts := atoms_spec (ws := ws_ yX2_numBitsDiffering cX2_numBitsDiffering 2 (some .int)) B.pre
  have hts : ∀ w ∈ lw_all, w.before _ s = true := fun w h => hts w (List.mem_cons_of_mem _ h)
  have hown : s.vm.findClass RX2 = some m.cls := findClass_of_methodNamed B.named
  have hlocks := B.notSynchronized
  have hl := lv_entry ([.int a0, .int b0]) (n := 2) (Nat.le_of_ble_eq_true rfl)
  rw [lg_entry_eq]
  generalize (lg_sl ([.int a0, .int b0]) ++ List.replicate (2 - (lg_sl ([.int a0, .int b0])).length) Slot.unset).toArray = ls at hl ⊢
  have hl : lv_has ls 2 [(0, .int a0), (1, .int b0)] := hl
  refine lv_iload_n hx hb dX2_numBitsDiffering_0 rfl (lv_at hl 0 rfl) ?_
  refine lv_iload_n hx hb dX2_numBitsDiffering_1 rfl (lv_at hl 1 rfl) ?_
  refine lv_ixor hx hb dX2_numBitsDiffering_2 ?_
  refine vp_callSi (W.runS (As := [.int (a0 ^^^ b0)]) (rest := []) ⟨hx, hb, hml, hown, hts⟩ (mt_bitCount l (a0 ^^^ b0)) (va_cwS 1 hts (lw_S q117 q118 q12 q119) rfl rfl rfl (by decide +kernel) ⟨Nat.le_of_ble_eq_true rfl, Nat.le_of_ble_eq_true rfl⟩) fw_pre rfl rfl hl.1 rfl (lv_room (Nat.le_of_ble_eq_true rfl)) dX2_numBitsDiffering_3 ⟨Nat.le_of_ble_eq_true rfl, Nat.le_of_ble_eq_true rfl⟩) (fun r er => ?_)
  exact W.iret (v := r) hx hb hr (fun t ht hW => ⟨r, rfl, er, ht⟩) (fun q h => by cases h) dX2_numBitsDiffering_6
end
section
set_option maxHeartbeats 4000000 in
set_option maxRecDepth 100000 in
/-- FormatWordModel.word(d) -/
theorem mt_word (l : Launch) (d : Nat) : Met l yX1_word (ws_ yX1_word cX1_word 3 (some .int)) ({ frames := 0, cells := 0, slots := 0, locals := 0 }) (fw_pc [.int (nI d)]) (vp_Si (fun r => r = fw_W d)) 0 0 (fun _ => False) := by
  refine Met.ofW (cc := cX1_word) (maxL := 3) (ret := (some .int)) (by decide) rfl ?_
  intro p e s m args below meth c s₁ B hml hv
  obtain rfl : args = ([.int (nI d)] : List Value).toArray := hv
  have hx := B.exec
  have hb := B.bytes
  have hr := B.returns
  have hlocks := B.notSynchronized
  have hl := lv_entry ([.int (nI d)]) (n := 3) (Nat.le_of_ble_eq_true rfl)
  rw [lg_entry_eq]
  generalize (lg_sl ([.int (nI d)]) ++ List.replicate (3 - (lg_sl ([.int (nI d)])).length) Slot.unset).toArray = ls at hl ⊢
  have hl : lv_has ls 3 [(0, .int (nI d))] := hl
  have loop : ∀ n : Nat, n ≤ 5 → ∀ (r x2 : Int32), fw_wl n r = fw_wl 5 (nI d <<< ((10 : Int32) &&& 31)) → x2 = nI (n + 9) → ∀ ls : Array Slot, lv_has ls 3 [(0, .int (nI d)), (1, .int r), (2, .int x2)] → W p l e (headSpec (ws_ yX1_word cX1_word 3 (some .int)) ({ frames := 0, cells := 0, slots := 0, locals := 0 })).room s m ([.int (nI d)] : List Value).toArray below meth c s.heap [] 0 0 (MQ below (vp_Si (fun r => r = fw_W d)) ([.int (nI d)] : List Value).toArray s 0 0 (fun _ => False)) (F0 m 8 ls []) := by
    intro n
    induction n with
    | zero =>
      intro hn r x2 hw e2 ls hl
      refine lv_iload_n hx hb dX1_word_8 rfl (lv_at hl 2 rfl) ?_
      refine lv_bipush (v := 10) hx hb dX1_word_9 (by decide) ?_
      refine lv_icmp_lt (tgt := 39) hx hb dX1_word_11 (by decide) (fun c1 => ?_) (fun c1 => ?_)
      · refine lv_iload_n hx hb dX1_word_39 rfl (lv_at hl 0 rfl) ?_
        refine lv_bipush (v := 10) hx hb dX1_word_40 (by decide) ?_
        refine lv_ishl hx hb dX1_word_42 ?_
        refine lv_iload_n hx hb dX1_word_43 rfl (lv_at hl 1 rfl) ?_
        refine lv_ior hx hb dX1_word_44 ?_
        refine lv_sipush (v := 21522) hx hb dX1_word_45 (by decide) ?_
        refine lv_ixor hx hb dX1_word_48 ?_
        exact W.iret (v := ((nI d <<< ((10 : Int32) &&& 31)) ||| r) ^^^ 21522) hx hb hr (fun t ht hW => ⟨_, rfl, by rw [show r = fw_wl 5 (nI d <<< ((10 : Int32) &&& 31)) from hw]; rfl, ht⟩) (fun q h => by cases h) dX1_word_49
      · exact absurd (by rw [e2]; decide) c1
    | succ n ih =>
      intro hn r x2 hw e2 ls hl
      have e2 : x2 = nI (n + 10) := e2
      refine lv_iload_n hx hb dX1_word_8 rfl (lv_at hl 2 rfl) ?_
      refine lv_bipush (v := 10) hx hb dX1_word_9 (by decide) ?_
      refine lv_icmp_lt (tgt := 39) hx hb dX1_word_11 (by decide) (fun c1 => ?_) (fun c1 => ?_)
      · exact absurd c1 (by rw [e2]; exact (by decide +kernel : ∀ n, n < 5 → ¬ nI (n + 10) < 10) n (by omega))
      · have K33 : ∀ (r1 : Int32), fw_ws r (n + 10) = r1 → ∀ ls : Array Slot, lv_has ls 3 [(0, .int (nI d)), (1, .int r1), (2, .int x2)] → W p l e (headSpec (ws_ yX1_word cX1_word 3 (some .int)) ({ frames := 0, cells := 0, slots := 0, locals := 0 })).room s m ([.int (nI d)] : List Value).toArray below meth c s.heap [] 0 0 (MQ below (vp_Si (fun r => r = fw_W d)) ([.int (nI d)] : List Value).toArray s 0 0 (fun _ => False)) (F0 m 33 ls []) := by
          intro r1 h1 ls hl
          obtain ⟨y2, ey2⟩ : ∃ y : Int32, y = x2 + (-1) := ⟨_, rfl⟩
          refine lv_iinc (v := y2) (lv' := [(2, .int y2), (0, .int (nI d)), (1, .int r1)]) hx hb dX1_word_33 hl (k := 2) rfl (by rw [ey2]; rfl) (by decide) rfl (fun ls hl => ?_)
          refine lv_goto (tgt := 8) hx hb dX1_word_36 (by decide) ?_
          refine ih (by omega) r1 y2 ?_ (by rw [ey2, e2]; exact pk_m1 (n + 9)) ls (lv_sub hl [1, 2, 0] rfl)
          rw [← h1]
          exact hw
        refine lv_iload_n hx hb dX1_word_14 rfl (lv_at hl 1 rfl) ?_
        refine lv_iload_n hx hb dX1_word_15 rfl (lv_at hl 2 rfl) ?_
        refine lv_ishr hx hb dX1_word_16 ?_
        refine lv_iconst (v := 1) hx hb dX1_word_17 (by decide) ?_
        refine lv_iand hx hb dX1_word_18 ?_
        refine lv_if_eq (tgt := 33) hx hb dX1_word_19 (by decide) (fun c2 => ?_) (fun c2 => ?_)
        · exact K33 r (by rw [e2] at c2; exact if_pos c2) ls hl
        · refine lv_iload_n hx hb dX1_word_22 rfl (lv_at hl 1 rfl) ?_
          refine lv_sipush (v := 1335) hx hb dX1_word_23 (by decide) ?_
          refine lv_iload_n hx hb dX1_word_26 rfl (lv_at hl 2 rfl) ?_
          refine lv_bipush (v := 10) hx hb dX1_word_27 (by decide) ?_
          refine lv_isub hx hb dX1_word_29 ?_
          refine lv_ishl hx hb dX1_word_30 ?_
          refine lv_ixor hx hb dX1_word_31 ?_
          refine lv_topi (fun r1 er1 => ?_)
          refine lv_istore_n (lv' := [(1, .int r1), (0, .int (nI d)), (2, .int x2)]) hx hb dX1_word_32 rfl hl (by decide) rfl (fun ls hl => ?_)
          exact K33 r1 (by rw [e2] at c2 er1; rw [er1]; exact if_neg c2) ls (lv_sub hl [1, 0, 2] rfl)
  refine lv_iload_n hx hb dX1_word_0 rfl (lv_at hl 0 rfl) ?_
  refine lv_bipush (v := 10) hx hb dX1_word_1 (by decide) ?_
  refine lv_ishl hx hb dX1_word_3 ?_
  refine lv_istore_n (lv' := [(1, .int (nI d <<< ((10 : Int32) &&& 31))), (0, .int (nI d))]) hx hb dX1_word_4 rfl hl (by decide) rfl (fun ls hl => ?_)
  refine lv_bipush (v := 14) hx hb dX1_word_5 (by decide) ?_
  refine lv_istore_n (lv' := [(2, .int 14), (1, .int (nI d <<< ((10 : Int32) &&& 31))), (0, .int (nI d))]) hx hb dX1_word_7 rfl hl (by decide) rfl (fun ls hl => ?_)
  exact loop 5 (Nat.le_refl 5) _ 14 rfl (by decide) ls (lv_sub hl [2, 1, 0] rfl)
set_option maxHeartbeats 4000000 in
set_option maxRecDepth 100000 in
/-- FormatWordModel.apart(a, b) -/
theorem mt_apart (l : Launch) (h0 : Nat) (a0 b0 : Int32) : Met l yX1_apart (ws_ yX1_apart cX1_apart 5 (some .int)) ({ frames := 0, cells := 0, slots := 0, locals := 0 }) (fw_pc [.ref h0, .int a0, .int b0]) (vp_Si (fun r => r = nI (fw_P (a0 ^^^ b0)))) 0 0 (fun _ => False) := by
  refine Met.ofW (cc := cX1_apart) (maxL := 5) (ret := (some .int)) (by decide) rfl ?_
  intro p e s m args below meth c s₁ B hml hv
  obtain rfl : args = ([.ref h0, .int a0, .int b0] : List Value).toArray := hv
  have hx := B.exec
  have hb := B.bytes
  have hr := B.returns
  have hlocks := B.notSynchronized
  have hl := lv_entry ([.ref h0, .int a0, .int b0]) (n := 5) (Nat.le_of_ble_eq_true rfl)
  rw [lg_entry_eq]
  generalize (lg_sl ([.ref h0, .int a0, .int b0]) ++ List.replicate (5 - (lg_sl ([.ref h0, .int a0, .int b0])).length) Slot.unset).toArray = ls at hl ⊢
  have hl : lv_has ls 5 [(0, .ref h0), (1, .int a0), (2, .int b0)] := hl
  have loop : ∀ n i : Nat, i + n = 32 → ∀ (x3 x4 : Int32), x3 = nI (fw_pn (a0 ^^^ b0).toBitVec.toNat i) → x4 = nI i → ∀ ls : Array Slot, lv_has ls 5 [(0, .ref h0), (1, .int a0), (2, .int b0), (3, .int x3), (4, .int x4)] → W p l e (headSpec (ws_ yX1_apart cX1_apart 5 (some .int)) ({ frames := 0, cells := 0, slots := 0, locals := 0 })).room s m ([.ref h0, .int a0, .int b0] : List Value).toArray below meth c s.heap [] 0 0 (MQ below (vp_Si (fun r => r = nI (fw_P (a0 ^^^ b0)))) ([.ref h0, .int a0, .int b0] : List Value).toArray s 0 0 (fun _ => False)) (F0 m 5 ls []) := by
    intro n
    induction n with
    | zero =>
      intro i hi x3 x4 e3 e4 ls hl
      have hi : i = 32 := hi
      subst hi
      refine lv_iload hx hb dX1_apart_5 (lv_at hl 4 rfl) ?_
      refine lv_bipush (v := 32) hx hb dX1_apart_7 (by decide) ?_
      refine lv_icmp_ge (tgt := 29) hx hb dX1_apart_9 (by decide) (fun c1 => ?_) (fun c1 => ?_)
      · refine lv_iload_n hx hb dX1_apart_29 rfl (lv_at hl 3 rfl) ?_
        exact W.iret (v := x3) hx hb hr (fun t ht hW => ⟨x3, rfl, e3, ht⟩) (fun q h => by cases h) dX1_apart_30
      · exact absurd (by rw [e4]; decide) c1
    | succ n ih =>
      intro i hi x3 x4 e3 e4 ls hl
      have hlt : i < 32 := by omega
      refine lv_iload hx hb dX1_apart_5 (lv_at hl 4 rfl) ?_
      refine lv_bipush (v := 32) hx hb dX1_apart_7 (by decide) ?_
      refine lv_icmp_ge (tgt := 29) hx hb dX1_apart_9 (by decide) (fun c1 => ?_) (fun c1 => ?_)
      · exact absurd c1 (by rw [e4]; exact nI_ge (b := 32) hlt (by decide))
      · refine lv_iload_n hx hb dX1_apart_12 rfl (lv_at hl 3 rfl) ?_
        refine lv_iload_n hx hb dX1_apart_13 rfl (lv_at hl 1 rfl) ?_
        refine lv_iload_n hx hb dX1_apart_14 rfl (lv_at hl 2 rfl) ?_
        refine lv_ixor hx hb dX1_apart_15 ?_
        refine lv_iload hx hb dX1_apart_16 (lv_at hl 4 rfl) ?_
        refine lv_iushr (v := fw_us (a0 ^^^ b0) x4) hx hb dX1_apart_18 rfl ?_
        refine lv_iconst (v := 1) hx hb dX1_apart_19 (by decide) ?_
        refine lv_iand hx hb dX1_apart_20 ?_
        refine lv_iadd hx hb dX1_apart_21 ?_
        refine lv_topi (fun y3 ey3 => ?_)
        refine lv_istore_n (lv' := [(3, .int y3), (0, .ref h0), (1, .int a0), (2, .int b0), (4, .int x4)]) hx hb dX1_apart_22 rfl hl (by decide) rfl (fun ls hl => ?_)
        obtain ⟨y4, ey4⟩ : ∃ y : Int32, y = x4 + 1 := ⟨_, rfl⟩
        refine lv_iinc (v := y4) (lv' := [(4, .int y4), (3, .int y3), (0, .ref h0), (1, .int a0), (2, .int b0)]) hx hb dX1_apart_23 hl (k := 4) rfl (by rw [ey4]; rfl) (by decide) rfl (fun ls hl => ?_)
        refine lv_goto (tgt := 5) hx hb dX1_apart_26 (by decide) ?_
        refine ih (i + 1) (by omega) y3 y4 ?_ (by rw [ey4, e4]; exact nI_1 i) ls (lv_sub hl [2, 3, 4, 1, 0] rfl)
        rw [ey3, e3, e4, fw_bit _ i hlt, nI_add]
        rfl
  refine lv_iconst (v := 0) hx hb dX1_apart_0 (by decide) ?_
  refine lv_istore_n (lv' := [(3, .int 0), (0, .ref h0), (1, .int a0), (2, .int b0)]) hx hb dX1_apart_1 rfl hl (by decide) rfl (fun ls hl => ?_)
  refine lv_iconst (v := 0) hx hb dX1_apart_2 (by decide) ?_
  refine lv_istore (lv' := [(4, .int 0), (3, .int 0), (0, .ref h0), (1, .int a0), (2, .int b0)]) hx hb dX1_apart_3 hl (by decide) rfl (fun ls hl => ?_)
  exact loop 32 0 rfl 0 0 nI_0.symm nI_0.symm ls (lv_sub hl [2, 3, 4, 1, 0] rfl)
set_option maxHeartbeats 4000000 in
set_option maxRecDepth 100000 in
/-- FormatWordModel.nearest(a, b): the first of the least distances, if it is at most 3 -/
theorem mt_nearest (l : Launch) (h0 : Nat) (a0 b0 : Int32) : Met l yX1_nearest (ws_ yX1_nearest cX1_nearest 9 (some .int)) ({ frames := 1, cells := 0, slots := 0, locals := 24 }) (va_Pc [.ref h0, .int a0, .int b0] (fun U => fw_Rv RX1 h0 U U.heap)) (vp_Si (fun r => r = fw_ans (fw_near a0 b0))) 0 0 (fun _ => False) := by
  refine Met.ofW (cc := cX1_nearest) (maxL := 9) (ret := (some .int)) (by decide) rfl ?_
  intro p e s m args below meth c s₁ B hml hv
  obtain ⟨rfl, hR⟩ := hv
  have hx := B.exec
  have hb := B.bytes
  have hr := B.returns
  have hts := atoms_spec (ws := ws_ yX1_nearest cX1_nearest 9 (some .int)) B.pre
  have hts : ∀ w ∈ lw_all, w.before _ s = true := fun w h => hts w (List.mem_cons_of_mem _ h)
  have hown : s.vm.findClass RX1 = some m.cls := findClass_of_methodNamed B.named
  have hlocks := B.notSynchronized
  have hl := lv_entry ([.ref h0, .int a0, .int b0]) (n := 9) (Nat.le_of_ble_eq_true rfl)
  rw [lg_entry_eq]
  generalize (lg_sl ([.ref h0, .int a0, .int b0]) ++ List.replicate (9 - (lg_sl ([.ref h0, .int a0, .int b0])).length) Slot.unset).toArray = ls at hl ⊢
  have hl : lv_has ls 9 [(0, .ref h0), (1, .int a0), (2, .int b0)] := hl
  have loop : ∀ n i : Nat, i + n = 32 → ∀ (x3 x4 x5 : Int32), x3 = nI (fw_g (fw_f a0 b0) i).1 → x4 = fw_wh (fw_f a0 b0) i → x5 = nI i → ∀ ls : Array Slot, lv_has ls 9 [(0, .ref h0), (1, .int a0), (2, .int b0), (3, .int x3), (4, .int x4), (5, .int x5)] → W p l e (headSpec (ws_ yX1_nearest cX1_nearest 9 (some .int)) ({ frames := 1, cells := 0, slots := 0, locals := 24 })).room s m ([.ref h0, .int a0, .int b0] : List Value).toArray below meth c s.heap [] 0 0 (MQ below (vp_Si (fun r => r = fw_ans (fw_near a0 b0))) ([.ref h0, .int a0, .int b0] : List Value).toArray s 0 0 (fun _ => False)) (F0 m 9 ls []) := by
    intro n
    induction n with
    | zero =>
      intro i hi x3 x4 x5 e3 e4 e5 ls hl
      have hi : i = 32 := hi
      subst hi
      have h99 := fw_g_99 (fw_f a0 b0) 32
      refine lv_iload hx hb dX1_nearest_9 (lv_at hl 5 rfl) ?_
      refine lv_bipush (v := 32) hx hb dX1_nearest_11 (by decide) ?_
      refine lv_icmp_ge (tgt := 75) hx hb dX1_nearest_13 (by decide) (fun c1 => ?_) (fun c1 => ?_)
      · refine lv_iload_n hx hb dX1_nearest_75 rfl (lv_at hl 3 rfl) ?_
        refine lv_iconst (v := 3) hx hb dX1_nearest_76 (by decide) ?_
        refine lv_icmp_gt (tgt := 85) hx hb dX1_nearest_77 (by decide) (fun c2 => ?_) (fun c2 => ?_)
        · refine lv_iconst (v := -1) hx hb dX1_nearest_85 (by decide) ?_
          have hgt : ¬ (fw_g (fw_f a0 b0) 32).1 ≤ 3 := by
            intro h
            exact absurd c2 (by rw [e3]; exact nI_nlt (a := 3) h (by decide))
          exact W.iret (v := -1) hx hb hr (fun t ht hW => ⟨-1, rfl, by rw [fw_near_gt hgt]; rfl, ht⟩) (fun q h => by cases h) dX1_nearest_86
        · refine lv_iload hx hb dX1_nearest_80 (lv_at hl 4 rfl) ?_
          refine lv_goto (tgt := 86) hx hb dX1_nearest_82 (by decide) ?_
          have hle : (fw_g (fw_f a0 b0) 32).1 ≤ 3 := by
            rcases Nat.lt_or_ge 3 (fw_g (fw_f a0 b0) 32).1 with h | h
            · exact absurd (by rw [e3]; exact nI_lt (a := 3) h (by omega)) c2
            · exact h
          exact W.iret (v := x4) hx hb hr (fun t ht hW => ⟨x4, rfl, by rw [e4, fw_near_le hle]; rfl, ht⟩) (fun q h => by cases h) dX1_nearest_86
      · exact absurd (by rw [e5]; decide) c1
    | succ n ih =>
      intro i hi x3 x4 x5 e3 e4 e5 ls hl
      have hlt : i < 32 := by omega
      have h99 := fw_g_99 (fw_f a0 b0) i
      have hf32 := fw_f_le a0 b0 i
      refine lv_iload hx hb dX1_nearest_9 (lv_at hl 5 rfl) ?_
      refine lv_bipush (v := 32) hx hb dX1_nearest_11 (by decide) ?_
      refine lv_icmp_ge (tgt := 75) hx hb dX1_nearest_13 (by decide) (fun c1 => ?_) (fun c1 => ?_)
      · exact absurd c1 (by rw [e5]; exact nI_ge (b := 32) hlt (by decide))
      · refine lv_aload_n hx hb dX1_nearest_16 rfl (lv_at hl 0 rfl) ?_
        refine lv_iload hx hb dX1_nearest_17 (lv_at hl 5 rfl) ?_
        subst e5
        refine vp_callSi (W.runS (As := [.int (nI i)]) (rest := [.ref h0]) ⟨hx, hb, hml, hown, hts⟩ (mt_word l i) (va_cwS 1 hts (lw_S q159 q160 q4 q161) rfl rfl rfl (by decide +kernel) ⟨Nat.le_of_ble_eq_true rfl, Nat.le_of_ble_eq_true rfl⟩) fw_pre rfl rfl hl.1 rfl (lv_room (Nat.le_of_ble_eq_true rfl)) dX1_nearest_19 ⟨Nat.le_of_ble_eq_true rfl, Nat.le_of_ble_eq_true rfl⟩) (fun w ew => ?_)
        have ew : w = fw_W i := ew
        subst ew
        refine lv_iload_n hx hb dX1_nearest_22 rfl (lv_at hl 1 rfl) ?_
        refine vp_callSi (W.runV (As := [.int (fw_W i), .int a0]) (rest := []) ⟨hx, hb, hml, hown, hts⟩ (mt_apart l h0 (fw_W i) a0) (cwV 2 hts (lw_V q162 q148 q149 q4 q150) rfl rfl rfl (by decide +kernel) ⟨Nat.le_of_ble_eq_true rfl, Nat.le_of_ble_eq_true rfl⟩) ⟨fun _ _ _ _ q => q, hR, fun _ _ _ => rfl⟩ rfl rfl hl.1 rfl (lv_room (Nat.le_of_ble_eq_true rfl)) dX1_nearest_23 ⟨Nat.le_of_ble_eq_true rfl, Nat.le_of_ble_eq_true rfl⟩) (fun x6 e6 => ?_)
        refine lv_istore (lv' := [(6, .int x6), (0, .ref h0), (1, .int a0), (2, .int b0), (3, .int x3), (4, .int x4), (5, .int (nI i))]) hx hb dX1_nearest_26 hl (by decide) rfl (fun ls hl => ?_)
        refine lv_aload_n hx hb dX1_nearest_28 rfl (lv_at hl 1 rfl) ?_
        refine lv_iload hx hb dX1_nearest_29 (lv_at hl 6 rfl) ?_
        refine vp_callSi (W.runS (As := [.int (nI i)]) (rest := [.ref h0]) ⟨hx, hb, hml, hown, hts⟩ (mt_word l i) (va_cwS 1 hts (lw_S q159 q160 q4 q161) rfl rfl rfl (by decide +kernel) ⟨Nat.le_of_ble_eq_true rfl, Nat.le_of_ble_eq_true rfl⟩) fw_pre rfl rfl hl.1 rfl (lv_room (Nat.le_of_ble_eq_true rfl)) dX1_nearest_31 ⟨Nat.le_of_ble_eq_true rfl, Nat.le_of_ble_eq_true rfl⟩) (fun w ew => ?_)
        have ew : w = fw_W i := ew
        subst ew
        refine lv_iload_n hx hb dX1_nearest_34 rfl (lv_at hl 3 rfl) ?_
        refine vp_callSi (W.runV (As := [.int (fw_W i), .int b0]) (rest := []) ⟨hx, hb, hml, hown, hts⟩ (mt_apart l h0 (fw_W i) b0) (cwV 2 hts (lw_V q162 q148 q149 q4 q150) rfl rfl rfl (by decide +kernel) ⟨Nat.le_of_ble_eq_true rfl, Nat.le_of_ble_eq_true rfl⟩) ⟨fun _ _ _ _ q => q, hR, fun _ _ _ => rfl⟩ rfl rfl hl.1 rfl (lv_room (Nat.le_of_ble_eq_true rfl)) dX1_nearest_35 ⟨Nat.le_of_ble_eq_true rfl, Nat.le_of_ble_eq_true rfl⟩) (fun x7 e7 => ?_)
        refine lv_istore (lv' := [(7, .int x7), (6, .int x6), (0, .ref h0), (1, .int a0), (2, .int b0), (3, .int x3), (4, .int x4), (5, .int (nI i))]) hx hb dX1_nearest_38 hl (by decide) rfl (fun ls hl => ?_)
        have h6 := fw_P_le (fw_W i ^^^ a0)
        have h7 := fw_P_le (fw_W i ^^^ b0)
        have K69 : ∀ (y3 y4 : Int32), y3 = nI (fw_g (fw_f a0 b0) (i + 1)).1 → y4 = fw_wh (fw_f a0 b0) (i + 1) → ∀ ls : Array Slot, lv_has ls 9 [(0, .ref h0), (1, .int a0), (2, .int b0), (3, .int y3), (4, .int y4), (5, .int (nI i))] → W p l e (headSpec (ws_ yX1_nearest cX1_nearest 9 (some .int)) ({ frames := 1, cells := 0, slots := 0, locals := 24 })).room s m ([.ref h0, .int a0, .int b0] : List Value).toArray below meth c s.heap [] 0 0 (MQ below (vp_Si (fun r => r = fw_ans (fw_near a0 b0))) ([.ref h0, .int a0, .int b0] : List Value).toArray s 0 0 (fun _ => False)) (F0 m 69 ls []) := by
          intro y3 y4 ey3 ey4 ls hl
          obtain ⟨y5, ey5⟩ : ∃ y : Int32, y = nI i + 1 := ⟨_, rfl⟩
          refine lv_iinc (v := y5) (lv' := [(5, .int y5), (0, .ref h0), (1, .int a0), (2, .int b0), (3, .int y3), (4, .int y4)]) hx hb dX1_nearest_69 hl (k := 5) rfl (by rw [ey5]; rfl) (by decide) rfl (fun ls hl => ?_)
          refine lv_goto (tgt := 9) hx hb dX1_nearest_72 (by decide) ?_
          exact ih (i + 1) (by omega) y3 y4 y5 ey3 ey4 (by rw [ey5]; exact nI_1 i) ls (lv_sub hl [1, 2, 3, 4, 5, 0] rfl)
        have K54 : ∀ x8 : Int32, x8 = nI (fw_f a0 b0 i) → W p l e (headSpec (ws_ yX1_nearest cX1_nearest 9 (some .int)) ({ frames := 1, cells := 0, slots := 0, locals := 24 })).room s m ([.ref h0, .int a0, .int b0] : List Value).toArray below meth c s.heap [] 0 0 (MQ below (vp_Si (fun r => r = fw_ans (fw_near a0 b0))) ([.ref h0, .int a0, .int b0] : List Value).toArray s 0 0 (fun _ => False)) (F0 m 54 ls [.int x8]) := by
          intro x8 e8
          refine lv_istore (lv' := [(8, .int x8), (7, .int x7), (6, .int x6), (0, .ref h0), (1, .int a0), (2, .int b0), (3, .int x3), (4, .int x4), (5, .int (nI i))]) hx hb dX1_nearest_54 hl (by decide) rfl (fun ls hl => ?_)
          refine lv_iload hx hb dX1_nearest_56 (lv_at hl 0 rfl) ?_
          refine lv_iload_n hx hb dX1_nearest_58 rfl (lv_at hl 6 rfl) ?_
          refine lv_icmp_ge (tgt := 69) hx hb dX1_nearest_59 (by decide) (fun c2 => ?_) (fun c2 => ?_)
          · have hno : ¬ fw_f a0 b0 i < (fw_g (fw_f a0 b0) i).1 := by
              intro h
              exact absurd c2 (by rw [e8, e3]; exact nI_ge h (by omega))
            exact K69 x3 x4 (by rw [e3, fw_g_s, if_neg hno]) (by rw [e4, fw_wh0 hf32 hno]) ls (lv_sub hl [3, 4, 5, 6, 7, 8] rfl)
          · have hyes : fw_f a0 b0 i < (fw_g (fw_f a0 b0) i).1 := by
              rcases Nat.lt_or_ge (fw_f a0 b0 i) (fw_g (fw_f a0 b0) i).1 with h | h
              · exact h
              · exact absurd (by rw [e8, e3]; exact nI_le h (by omega)) c2
            refine lv_iload hx hb dX1_nearest_62 (lv_at hl 0 rfl) ?_
            refine lv_istore_n (lv' := [(3, .int x8), (8, .int x8), (7, .int x7), (6, .int x6), (0, .ref h0), (1, .int a0), (2, .int b0), (4, .int x4), (5, .int (nI i))]) hx hb dX1_nearest_64 rfl hl (by decide) rfl (fun ls hl => ?_)
            refine lv_iload hx hb dX1_nearest_65 (lv_at hl 8 rfl) ?_
            refine lv_istore (lv' := [(4, .int (nI i)), (3, .int x8), (8, .int x8), (7, .int x7), (6, .int x6), (0, .ref h0), (1, .int a0), (2, .int b0), (5, .int (nI i))]) hx hb dX1_nearest_67 hl (by decide) rfl (fun ls hl => ?_)
            exact K69 x8 (nI i) (by rw [e8, fw_g_s, if_pos hyes]) (by rw [fw_wh_s, fw_g_s, if_pos hyes]) ls (lv_sub hl [5, 6, 7, 1, 0, 8] rfl)
        refine lv_iload hx hb dX1_nearest_40 (lv_at hl 1 rfl) ?_
        refine lv_iload hx hb dX1_nearest_42 (lv_at hl 0 rfl) ?_
        refine lv_icmp_ge (tgt := 52) hx hb dX1_nearest_44 (by decide) (fun c2 => ?_) (fun c2 => ?_)
        · refine lv_iload hx hb dX1_nearest_52 (lv_at hl 0 rfl) ?_
          have hno : ¬ fw_P (fw_W i ^^^ a0) < fw_P (fw_W i ^^^ b0) := by
            intro h
            exact absurd c2 (by rw [e6, e7]; exact nI_ge h (by omega))
          exact K54 x7 (by rw [e7]; unfold fw_f; rw [if_neg hno])
        · refine lv_iload hx hb dX1_nearest_47 (lv_at hl 1 rfl) ?_
          refine lv_goto (tgt := 54) hx hb dX1_nearest_49 (by decide) ?_
          have hyes : fw_P (fw_W i ^^^ a0) < fw_P (fw_W i ^^^ b0) := by
            rcases Nat.lt_or_ge (fw_P (fw_W i ^^^ a0)) (fw_P (fw_W i ^^^ b0)) with h | h
            · exact h
            · exact absurd (by rw [e6, e7]; exact nI_le h (by omega)) c2
          exact K54 x6 (by rw [e6]; unfold fw_f; rw [if_pos hyes])
  refine lv_bipush (v := 99) hx hb dX1_nearest_0 (by decide) ?_
  refine lv_istore_n (lv' := [(3, .int 99), (0, .ref h0), (1, .int a0), (2, .int b0)]) hx hb dX1_nearest_2 rfl hl (by decide) rfl (fun ls hl => ?_)
  refine lv_iconst (v := -1) hx hb dX1_nearest_3 (by decide) ?_
  refine lv_istore (lv' := [(4, .int (-1)), (3, .int 99), (0, .ref h0), (1, .int a0), (2, .int b0)]) hx hb dX1_nearest_4 hl (by decide) rfl (fun ls hl => ?_)
  refine lv_iconst (v := 0) hx hb dX1_nearest_6 (by decide) ?_
  refine lv_istore (lv' := [(5, .int 0), (4, .int (-1)), (3, .int 99), (0, .ref h0), (1, .int a0), (2, .int b0)]) hx hb dX1_nearest_7 hl (by decide) rfl (fun ls hl => ?_)
  exact loop 32 0 rfl 99 (-1) 0 rfl rfl nI_0.symm ls (lv_sub hl [3, 4, 5, 2, 1, 0] rfl)
set_option maxHeartbeats 4000000 in
set_option maxRecDepth 100000 in
/-- FormatWordModel.read(a, b) -/
theorem mt_mread (l : Launch) (h0 : Nat) (a0 b0 : Int32) : Met l yX1_read (ws_ yX1_read cX1_read 4 (some .int)) ({ frames := 2, cells := 0, slots := 0, locals := 52 }) (va_Pc [.ref h0, .int a0, .int b0] (fun U => fw_Rv RX1 h0 U U.heap)) (vp_Si (fun r => r = fw_ans (fw_dec a0 b0))) 0 0 (fun _ => False) := by
  refine Met.ofW (cc := cX1_read) (maxL := 4) (ret := (some .int)) (by decide) rfl ?_
  intro p e s m args below meth c s₁ B hml hv
  obtain ⟨rfl, hR⟩ := hv
  have hx := B.exec
  have hb := B.bytes
  have hr := B.returns
  have hts := atoms_spec (ws := ws_ yX1_read cX1_read 4 (some .int)) B.pre
  have hts : ∀ w ∈ lw_all, w.before _ s = true := fun w h => hts w (List.mem_cons_of_mem _ h)
  have hown : s.vm.findClass RX1 = some m.cls := findClass_of_methodNamed B.named
  have hlocks := B.notSynchronized
  have hl := lv_entry ([.ref h0, .int a0, .int b0]) (n := 4) (Nat.le_of_ble_eq_true rfl)
  rw [lg_entry_eq]
  generalize (lg_sl ([.ref h0, .int a0, .int b0]) ++ List.replicate (4 - (lg_sl ([.ref h0, .int a0, .int b0])).length) Slot.unset).toArray = ls at hl ⊢
  have hl : lv_has ls 4 [(0, .ref h0), (1, .int a0), (2, .int b0)] := hl
  refine lv_aload_n hx hb dX1_read_0 rfl (lv_at hl 0 rfl) ?_
  refine lv_iload_n hx hb dX1_read_1 rfl (lv_at hl 1 rfl) ?_
  refine lv_iload_n hx hb dX1_read_2 rfl (lv_at hl 2 rfl) ?_
  refine vp_callSi (W.runV (As := [.int a0, .int b0]) (rest := []) ⟨hx, hb, hml, hown, hts⟩ (mt_nearest l h0 a0 b0) (cwV 2 hts (lw_V q155 q157 qs1 q4 q158) rfl rfl rfl (by decide +kernel) ⟨Nat.le_of_ble_eq_true rfl, Nat.le_of_ble_eq_true rfl⟩) ⟨fun a U g mk q => ⟨q.1, fw_Rv.moved (u := U) (U := U.calling g mk a) (Vm.Alike.refl U.vm) q.2⟩, hR, fun U hU hW => ⟨rfl, hR.give hU hW.alike⟩⟩ rfl rfl hl.1 rfl (lv_room (Nat.le_of_ble_eq_true rfl)) dX1_read_3 ⟨Nat.le_of_ble_eq_true rfl, Nat.le_of_ble_eq_true rfl⟩) (fun x3 e3 => ?_)
  have e3 : x3 = fw_ans (fw_near a0 b0) := e3
  refine lv_istore_n (lv' := [(3, .int x3), (0, .ref h0), (1, .int a0), (2, .int b0)]) hx hb dX1_read_6 rfl hl (by decide) rfl (fun ls hl => ?_)
  refine lv_iload_n hx hb dX1_read_7 rfl (lv_at hl 0 rfl) ?_
  refine lv_if_lt (tgt := 15) hx hb dX1_read_8 (by decide) (fun c1 => ?_) (fun c1 => ?_)
  · refine lv_aload_n hx hb dX1_read_15 rfl (lv_at hl 1 rfl) ?_
    refine lv_iload_n hx hb dX1_read_16 rfl (lv_at hl 2 rfl) ?_
    refine lv_sipush (v := 21522) hx hb dX1_read_17 (by decide) ?_
    refine lv_ixor hx hb dX1_read_20 ?_
    refine lv_iload_n hx hb dX1_read_21 rfl (lv_at hl 3 rfl) ?_
    refine lv_sipush (v := 21522) hx hb dX1_read_22 (by decide) ?_
    refine lv_ixor hx hb dX1_read_25 ?_
    refine vp_callSi (W.runV (As := [.int (a0 ^^^ 21522), .int (b0 ^^^ 21522)]) (rest := []) ⟨hx, hb, hml, hown, hts⟩ (mt_nearest l h0 (a0 ^^^ 21522) (b0 ^^^ 21522)) (cwV 2 hts (lw_V q155 q157 qs1 q4 q158) rfl rfl rfl (by decide +kernel) ⟨Nat.le_of_ble_eq_true rfl, Nat.le_of_ble_eq_true rfl⟩) ⟨fun a U g mk q => ⟨q.1, fw_Rv.moved (u := U) (U := U.calling g mk a) (Vm.Alike.refl U.vm) q.2⟩, hR, fun U hU hW => ⟨rfl, hR.give hU hW.alike⟩⟩ rfl rfl hl.1 rfl (lv_room (Nat.le_of_ble_eq_true rfl)) dX1_read_26 ⟨Nat.le_of_ble_eq_true rfl, Nat.le_of_ble_eq_true rfl⟩) (fun r er => ?_)
    have hn : fw_near a0 b0 = none := by
      cases h : fw_near a0 b0 with
      | none => rfl
      | some d =>
        rw [h] at e3
        have hd := fw_near_in h
        exact absurd c1 (by rw [e3]; exact nI_pos (by omega))
    exact W.iret (v := r) hx hb hr (fun t ht hW => ⟨r, rfl, by unfold fw_dec; rw [hn]; exact er, ht⟩) (fun q h => by cases h) dX1_read_29
  · refine lv_iload_n hx hb dX1_read_11 rfl (lv_at hl 0 rfl) ?_
    refine lv_goto (tgt := 29) hx hb dX1_read_12 (by decide) ?_
    have hs : fw_ans (fw_dec a0 b0) = x3 := by
      cases h : fw_near a0 b0 with
      | none =>
        rw [h] at e3
        exact absurd (by rw [e3]; decide) c1
      | some d =>
        rw [e3, h]
        unfold fw_dec
        rw [h]
    exact W.iret (v := x3) hx hb hr (fun t ht hW => ⟨x3, rfl, hs.symm, ht⟩) (fun q h => by cases h) dX1_read_29
end
section
/-! the enum, the constructors, the readers of a FormatInformation -/
set_option maxHeartbeats 4000000 in
set_option maxRecDepth 100000 in
/-- ErrorCorrectionLevel.forBits(k), k below 4: the constant with these bits -/
theorem mt_forBits (l : Launch) (tT : Nat) (rw : Nat → Nat) (tF : Nat) (ad : Nat → Nat) (k : Nat) (hk : k < 4) : Met l yX3_forBits (ws_ yX3_forBits cX3_forBits 1 (some (.object "ErrorCorrectionLevel"))) ({ frames := 0, cells := 0, slots := 0, locals := 0 }) (va_Pc [.int (nI k)] (fun U => fw_C tT rw tF ad (fun _ => False) U U.heap)) (va_Sr (fun a => a = ad k) (fun a => .ref a)) 0 0 (fun _ => False) := by
  refine Met.ofW (cc := cX3_forBits) (maxL := 1) (ret := (some (.object "ErrorCorrectionLevel"))) (by decide) rfl ?_
  intro p e s m args below meth c s₁ B hml hv
  obtain ⟨rfl, hC⟩ := hv
  have hx := B.exec
  have hb := B.bytes
  have hr := B.returns
  have hts := atoms_spec (ws := ws_ yX3_forBits cX3_forBits 1 (some (.object "ErrorCorrectionLevel"))) B.pre
  have hts : ∀ w ∈ lw_all, w.before _ s = true := fun w h => hts w (List.mem_cons_of_mem _ h)
  have hown : s.vm.findClass RX3 = some m.cls := findClass_of_methodNamed B.named
  have hlocks := B.notSynchronized
  have hC : fw_C tT rw tF ad (fun _ => False) s s.heap := hC
  have hS : va_S (fun _ => False) s.heap s.heap [] := va_S.rf
  have hl := lv_entry ([.int (nI k)]) (n := 1) (Nat.le_of_ble_eq_true rfl)
  rw [lg_entry_eq]
  generalize (lg_sl ([.int (nI k)]) ++ List.replicate (1 - (lg_sl ([.int (nI k)])).length) Slot.unset).toArray = ls at hl ⊢
  have hl : lv_has ls 1 [(0, .int (nI k))] := hl
  refine lv_iload_n hx hb dX3_forBits_0 rfl (lv_at hl 0 rfl) ?_
  refine lv_if_lt (tgt := 12) hx hb dX3_forBits_1 (by decide) (fun c1 => ?_) (fun c1 => ?_)
  · exact absurd c1 (nI_pos (by omega))
  · refine lv_iload_n hx hb dX3_forBits_4 rfl (lv_at hl 0 rfl) ?_
    refine va_gets hx hb hC.2.2.2.1 hS hown (hts _ q44) (fun _ h => h) dX3_forBits_5 ?_
    refine va_tlen (v := nI 4) hx hb hC.2.2.2.2.1 hS rfl dX3_forBits_8 ?_
    refine lv_icmp_lt (tgt := 20) hx hb dX3_forBits_9 (by decide) (fun c2 => ?_) (fun c2 => ?_)
    · refine va_gets hx hb hC.2.2.2.1 hS hown (hts _ q44) (fun _ h => h) dX3_forBits_20 ?_
      refine lv_iload_n hx hb dX3_forBits_23 rfl (lv_at hl 0 rfl) ?_
      refine fw_ta (v := .ref (ad k)) hx hb rfl hC.2.2.2.2.1 hS (vp_in_nI hk (by decide)) (by show Value.ref (ad (nI k).toNatClampNeg) = _; rw [nI_clamp (by omega)]) dX3_forBits_24 ?_
      exact W.aret (v := .ref (ad k)) hx hb hr (Or.inl ⟨_, rfl⟩) (Or.inr ⟨_, rfl⟩) (fun t ht hW => ⟨ad k, rfl, rfl, ht⟩) (fun q h => by cases h) dX3_forBits_25
    · exact absurd (nI_lt hk (by decide)) c2
set_option maxHeartbeats 4000000 in
set_option maxRecDepth 100000 in
/-- ErrorCorrectionLevel.getBits() of the k-th constant -/
theorem mt_getBits (l : Launch) (tT : Nat) (rw : Nat → Nat) (tF : Nat) (ad : Nat → Nat) (k : Nat) (hk : k < 4) : Met l yX3_getBits (ws_ yX3_getBits cX3_getBits 1 (some .int)) ({ frames := 0, cells := 0, slots := 0, locals := 0 }) (va_Pc [.ref (ad k)] (fun U => fw_C tT rw tF ad (fun _ => False) U U.heap)) (vp_Si (fun r => r = nI k)) 0 0 (fun _ => False) := by
  refine Met.ofW (cc := cX3_getBits) (maxL := 1) (ret := (some .int)) (by decide) rfl ?_
  intro p e s m args below meth c s₁ B hml hv
  obtain ⟨rfl, hC⟩ := hv
  have hx := B.exec
  have hb := B.bytes
  have hr := B.returns
  have hts := atoms_spec (ws := ws_ yX3_getBits cX3_getBits 1 (some .int)) B.pre
  have hts : ∀ w ∈ lw_all, w.before _ s = true := fun w h => hts w (List.mem_cons_of_mem _ h)
  have hown : s.vm.findClass RX3 = some m.cls := findClass_of_methodNamed B.named
  have hlocks := B.notSynchronized
  have hC : fw_C tT rw tF ad (fun _ => False) s s.heap := hC
  have hS : va_S (fun _ => False) s.heap s.heap [] := va_S.rf
  have hl := lv_entry ([.ref (ad k)]) (n := 1) (Nat.le_of_ble_eq_true rfl)
  rw [lg_entry_eq]
  generalize (lg_sl ([.ref (ad k)]) ++ List.replicate (1 - (lg_sl ([.ref (ad k)])).length) Slot.unset).toArray = ls at hl ⊢
  have hl : lv_has ls 1 [(0, .ref (ad k))] := hl
  refine lv_aload_n hx hb dX3_getBits_0 rfl (lv_at hl 0 rfl) ?_
  refine va_getE (q := ("ErrorCorrectionLevel", "bits", "I", [0, 1, 2, 3])) hx hb hC.2.2.2.2.2 hk hS hown List.mem_cons_self (hts _ q164) (fun _ h => h) dX3_getBits_1 ?_
  exact W.iret (v := ([0, 1, 2, 3] : List Int32).getD k 0) hx hb hr (fun t ht hW => ⟨_, rfl, (by decide +kernel : ∀ k, k < 4 → ([0, 1, 2, 3] : List Int32).getD k 0 = nI k) k hk, ht⟩) (fun q h => by cases h) dX3_getBits_4
set_option maxHeartbeats 4000000 in
set_option maxRecDepth 100000 in
/-- FormatInformation.getErrorCorrectionLevel() -/
theorem mt_getECL (l : Launch) (dC : Nat → ClassId) (dI : Nat → Nat → Nat) (ad : Nat → Nat) (h0 d : Nat) : Met l yX2_getErrorCorrectionLevel (ws_ yX2_getErrorCorrectionLevel cX2_getErrorCorrectionLevel 1 (some (.object "ErrorCorrectionLevel"))) ({ frames := 0, cells := 0, slots := 0, locals := 0 }) (va_Pc [.ref h0] (fun U => va_P (dC, dI) fw_cl [(h0, fw_E ad d)] U.heap ∧ va_K (dC, dI) fw_cl [] U)) (va_Sr (fun a => a = ad (d / 8)) (fun a => .ref a)) 0 0 (fun _ => False) := by
  refine Met.ofW (cc := cX2_getErrorCorrectionLevel) (maxL := 1) (ret := (some (.object "ErrorCorrectionLevel"))) (by decide) rfl ?_
  intro p e s m args below meth c s₁ B hml hv
  obtain ⟨rfl, hP, hK⟩ := hv
  have hx := B.exec
  have hb := B.bytes
  have hr := B.returns
  have hts := atoms_spec (ws := ws_ yX2_getErrorCorrectionLevel cX2_getErrorCorrectionLevel 1 (some (.object "ErrorCorrectionLevel"))) B.pre
  have hts : ∀ w ∈ lw_all, w.before _ s = true := fun w h => hts w (List.mem_cons_of_mem _ h)
  have hown : s.vm.findClass RX2 = some m.cls := findClass_of_methodNamed B.named
  have hlocks := B.notSynchronized
  have hl := lv_entry ([.ref h0]) (n := 1) (Nat.le_of_ble_eq_true rfl)
  rw [lg_entry_eq]
  generalize (lg_sl ([.ref h0]) ++ List.replicate (1 - (lg_sl ([.ref h0])).length) Slot.unset).toArray = ls at hl ⊢
  have hl : lv_has ls 1 [(0, .ref h0)] := hl
  refine lv_aload_n hx hb dX2_getErrorCorrectionLevel_0 rfl (lv_at hl 0 rfl) ?_
  refine va_get (D := (dC, dI)) (ci := 2) (v := .ref (ad (d / 8))) (C := RX2) (T := TX2) (N := 2) hx hb hts in_X2 hown hK hP 0 rfl rfl 0 (by decide) (hts _ q107) (fun _ h9 => h9) rfl dX2_getErrorCorrectionLevel_1 ?_
  exact W.aret (v := .ref (ad (d / 8))) hx hb hr (Or.inl ⟨_, rfl⟩) (Or.inr ⟨_, rfl⟩) (fun t ht hW => ⟨ad (d / 8), rfl, rfl, ht⟩) (fun q h => by cases h) dX2_getErrorCorrectionLevel_4
set_option maxHeartbeats 4000000 in
set_option maxRecDepth 100000 in
/-- FormatInformation.getDataMask() -/
theorem mt_getMask (l : Launch) (dC : Nat → ClassId) (dI : Nat → Nat → Nat) (ad : Nat → Nat) (h0 d : Nat) : Met l yX2_getDataMask (ws_ yX2_getDataMask cX2_getDataMask 1 (some .byte)) ({ frames := 0, cells := 0, slots := 0, locals := 0 }) (va_Pc [.ref h0] (fun U => va_P (dC, dI) fw_cl [(h0, fw_E ad d)] U.heap ∧ va_K (dC, dI) fw_cl [] U)) (vp_Si (fun r => r = nI (d % 8))) 0 0 (fun _ => False) := by
  refine Met.ofW (cc := cX2_getDataMask) (maxL := 1) (ret := (some .byte)) (by decide) rfl ?_
  intro p e s m args below meth c s₁ B hml hv
  obtain ⟨rfl, hP, hK⟩ := hv
  have hx := B.exec
  have hb := B.bytes
  have hr := B.returns
  have hts := atoms_spec (ws := ws_ yX2_getDataMask cX2_getDataMask 1 (some .byte)) B.pre
  have hts : ∀ w ∈ lw_all, w.before _ s = true := fun w h => hts w (List.mem_cons_of_mem _ h)
  have hown : s.vm.findClass RX2 = some m.cls := findClass_of_methodNamed B.named
  have hlocks := B.notSynchronized
  have hl := lv_entry ([.ref h0]) (n := 1) (Nat.le_of_ble_eq_true rfl)
  rw [lg_entry_eq]
  generalize (lg_sl ([.ref h0]) ++ List.replicate (1 - (lg_sl ([.ref h0])).length) Slot.unset).toArray = ls at hl ⊢
  have hl : lv_has ls 1 [(0, .ref h0)] := hl
  refine lv_aload_n hx hb dX2_getDataMask_0 rfl (lv_at hl 0 rfl) ?_
  refine va_get (D := (dC, dI)) (ci := 2) (v := .int (nI (d % 8))) (C := RX2) (T := TX2) (N := 2) hx hb hts in_X2 hown hK hP 0 rfl rfl 1 (by decide) (hts _ q108) (fun _ h9 => h9) rfl dX2_getDataMask_1 ?_
  exact W.zret (v := nI (d % 8)) hx hb hr (fw_n5 (Nat.mod_lt _ (by decide))) (fun t ht hW => ⟨_, rfl, rfl, ht⟩) (fun q h => by cases h) dX2_getDataMask_4
set_option maxHeartbeats 4000000 in
set_option maxRecDepth 100000 in
/-- FormatWord(): nothing -/
theorem mt_init0 (l : Launch) (h0 : Nat) : Met l yX0_init (ws_ yX0_init cX0_init 1 none) ({ frames := 1, cells := 0, slots := 0, locals := 12 }) (fw_pc [.ref h0]) (va_Sv (fun _ => True)) 0 0 (fun _ => False) := by
  refine Met.ofW (cc := cX0_init) (maxL := 1) (ret := none) (by decide) rfl ?_
  intro p e s m args below meth c s₁ B hml hv
  obtain rfl : args = ([.ref h0] : List Value).toArray := hv
  have hx := B.exec
  have hb := B.bytes
  have hr := B.returns
  have hts := atoms_spec (ws := ws_ yX0_init cX0_init 1 none) B.pre
  have hts : ∀ w ∈ lw_all, w.before _ s = true := fun w h => hts w (List.mem_cons_of_mem _ h)
  have hown : s.vm.findClass RX0 = some m.cls := findClass_of_methodNamed B.named
  have hlocks := B.notSynchronized
  have hl := lv_entry ([.ref h0]) (n := 1) (Nat.le_of_ble_eq_true rfl)
  rw [lg_entry_eq]
  generalize (lg_sl ([.ref h0]) ++ List.replicate (1 - (lg_sl ([.ref h0])).length) Slot.unset).toArray = ls at hl ⊢
  have hl : lv_has ls 1 [(0, .ref h0)] := hl
  refine lv_aload_n hx hb dX0_init_0 rfl (lv_at hl 0 rfl) ?_
  refine W.objInit hx hb hown (hts _ q18) (hts _ q19) (hts _ q20) rfl (by rw [hml]; exact hl.1) rfl dX0_init_1 (Nat.le_of_ble_eq_true rfl) (Nat.le_of_ble_eq_true rfl) ?_
  refine W.eq (g2 := F0 m 4 ls []) rfl ?_
  exact W.vret hx hb hr (fun t ht hW => ⟨rfl, trivial, ht⟩) (fun q h => by cases h) dX0_init_4
set_option maxHeartbeats 4000000 in
set_option maxRecDepth 100000 in
/-- FormatWordModel(): nothing -/
theorem mt_init1 (l : Launch) (h0 : Nat) : Met l yX1_init (ws_ yX1_init cX1_init 1 none) ({ frames := 1, cells := 0, slots := 0, locals := 12 }) (fw_pc [.ref h0]) (va_Sv (fun _ => True)) 0 0 (fun _ => False) := by
  refine Met.ofW (cc := cX1_init) (maxL := 1) (ret := none) (by decide) rfl ?_
  intro p e s m args below meth c s₁ B hml hv
  obtain rfl : args = ([.ref h0] : List Value).toArray := hv
  have hx := B.exec
  have hb := B.bytes
  have hr := B.returns
  have hts := atoms_spec (ws := ws_ yX1_init cX1_init 1 none) B.pre
  have hts : ∀ w ∈ lw_all, w.before _ s = true := fun w h => hts w (List.mem_cons_of_mem _ h)
  have hown : s.vm.findClass RX1 = some m.cls := findClass_of_methodNamed B.named
  have hlocks := B.notSynchronized
  have hl := lv_entry ([.ref h0]) (n := 1) (Nat.le_of_ble_eq_true rfl)
  rw [lg_entry_eq]
  generalize (lg_sl ([.ref h0]) ++ List.replicate (1 - (lg_sl ([.ref h0])).length) Slot.unset).toArray = ls at hl ⊢
  have hl : lv_has ls 1 [(0, .ref h0)] := hl
  refine lv_aload_n hx hb dX1_init_0 rfl (lv_at hl 0 rfl) ?_
  refine W.objInit hx hb hown (hts _ q145) (hts _ q19) (hts _ q20) rfl (by rw [hml]; exact hl.1) rfl dX1_init_1 (Nat.le_of_ble_eq_true rfl) (Nat.le_of_ble_eq_true rfl) ?_
  refine W.eq (g2 := F0 m 4 ls []) rfl ?_
  exact W.vret hx hb hr (fun t ht hW => ⟨rfl, trivial, ht⟩) (fun q h => by cases h) dX1_init_4
set_option maxHeartbeats 4000000 in
set_option maxRecDepth 100000 in
/-- FormatInformation(d), d below 32: the constant of its two high bits, its three low bits -/
theorem mt_finit (l : Launch) (dC : Nat → ClassId) (dI : Nat → Nat → Nat) (tT : Nat) (rw : Nat → Nat) (tF : Nat) (ad : Nat → Nat) (h0 sz d : Nat) (hd : d < 32) : Met l yX2_init (ws_ yX2_init cX2_init 2 none) ({ frames := 1, cells := 0, slots := 0, locals := 20 }) (va_Pc [.ref h0, .int (nI d)] (fun U => U.heap.size = sz ∧ va_P (dC, dI) fw_cl [(h0, fw_E0)] U.heap ∧ va_K (dC, dI) fw_cl [] U ∧ va_D (fun _ => True) [(h0, fw_E0)] ∧ fw_C tT rw tF ad (va_A [(h0, fw_E0)] sz) U U.heap)) (va_Qv (fun _ : Unit => True) (fun _ t => va_P (dC, dI) fw_cl [(h0, fw_E ad d)] t.heap ∧ va_K (dC, dI) fw_cl [] t ∧ va_D (va_A [(h0, fw_E0)] sz) [(h0, fw_E ad d)]) (va_A [(h0, fw_E0)] sz)) 0 0 (va_A [(h0, fw_E0)] sz) := by
  refine Met.ofW (cc := cX2_init) (maxL := 2) (ret := none) (by decide) rfl ?_
  intro p e s m args below meth c s₁ B hml hv
  obtain ⟨rfl, hsz, hP, hK, hD0, hC⟩ := hv
  have hx := B.exec
  have hb := B.bytes
  have hr := B.returns
  have hts := atoms_spec (ws := ws_ yX2_init cX2_init 2 none) B.pre
  have hts : ∀ w ∈ lw_all, w.before _ s = true := fun w h => hts w (List.mem_cons_of_mem _ h)
  have hown : s.vm.findClass RX2 = some m.cls := findClass_of_methodNamed B.named
  have hlocks := B.notSynchronized
  have hin : meth.name = "<init>" := (name_of_methodNamed B.named B.method).1
  subst hsz
  have hD := hD0.self (sz := s.heap.size)
  generalize hAe : va_A [(h0, fw_E0)] s.heap.size = A at hD hC ⊢
  have hS : va_S A s.heap s.heap [] := va_S.rf
  have hP : va_P (dC, dI) fw_cl [(h0, .inr (2, [.null, .int 0]))] s.heap := hP
  have hl := lv_entry ([.ref h0, .int (nI d)]) (n := 2) (Nat.le_of_ble_eq_true rfl)
  rw [lg_entry_eq]
  generalize (lg_sl ([.ref h0, .int (nI d)]) ++ List.replicate (2 - (lg_sl ([.ref h0, .int (nI d)])).length) Slot.unset).toArray = ls at hl ⊢
  have hl : lv_has ls 2 [(0, .ref h0), (1, .int (nI d))] := hl
  refine lv_aload_n hx hb dX2_init_0 rfl (lv_at hl 0 rfl) ?_
  refine W.objInit hx hb hown (hts _ q40) (hts _ q19) (hts _ q20) rfl (by rw [hml]; exact hl.1) rfl dX2_init_1 (Nat.le_of_ble_eq_true rfl) (Nat.le_of_ble_eq_true rfl) ?_
  refine W.eq (g2 := F0 m 4 ls []) rfl ?_
  refine lv_aload_n hx hb dX2_init_4 rfl (lv_at hl 0 rfl) ?_
  refine lv_iload_n hx hb dX2_init_5 rfl (lv_at hl 1 rfl) ?_
  refine lv_iconst (v := 3) hx hb dX2_init_6 (by decide) ?_
  refine lv_ishr hx hb dX2_init_7 ?_
  refine lv_iconst (v := 3) hx hb dX2_init_8 (by decide) ?_
  refine lv_iand hx hb dX2_init_9 ?_
  refine lv_topi (fun x1 e1 => ?_)
  have e1 : x1 = nI (d / 8) := e1.trans (fw_n1 d hd)
  subst e1
  refine va_csr (W.runS (As := [.int (nI (d / 8))]) (rest := [.ref h0]) ⟨hx, hb, hml, hown, hts⟩ (mt_forBits l tT rw tF ad (d / 8) (by omega)) (va_cwS 1 hts (lw_S q41 q42 q7 q43) rfl rfl rfl (by decide +kernel) ⟨Nat.le_of_ble_eq_true rfl, Nat.le_of_ble_eq_true rfl⟩) ⟨fun a U g mk q => ⟨q.1, fw_C.moved (u := U) (U := U.calling g mk a) (Vm.Alike.refl U.vm) q.2⟩, fun U hU hW => ⟨rfl, hC.give hS (fun _ h => h.elim) hU hW.alike⟩⟩ rfl rfl hl.1 rfl (lv_room (Nat.le_of_ble_eq_true rfl)) dX2_init_10 ⟨Nat.le_of_ble_eq_true rfl, Nat.le_of_ble_eq_true rfl⟩) (fun k ek => ?_)
  have ek : k = ad (d / 8) := ek
  subst ek
  refine va_putF (D := (dC, dI)) (ci := 2) (v := .ref (ad (d / 8))) (ty := .object "ErrorCorrectionLevel") (C := RX2) (T := TX2) (N := 2) hx hb hts in_X2 tyX2 tyX2_ok nmX2 hown hK hP hD hS 0 rfl rfl 0 (by decide) (hts _ q107) (fun _ h9 => h9) rfl hin rfl (by decide +kernel) rfl rfl (Nat.le_of_ble_eq_true rfl) dX2_init_13 (fun H locs hP hD hS => ?_)
  have hP : va_P (dC, dI) fw_cl [(h0, .inr (2, [.ref (ad (d / 8)), .int 0]))] H := hP
  have hD : va_D A [(h0, .inr (2, [.ref (ad (d / 8)), .int 0]))] := hD
  refine lv_aload_n hx hb dX2_init_16 rfl (lv_at hl 0 rfl) ?_
  refine lv_iload_n hx hb dX2_init_17 rfl (lv_at hl 1 rfl) ?_
  refine lv_bipush (v := 7) hx hb dX2_init_18 (by decide) ?_
  refine lv_iand hx hb dX2_init_20 ?_
  refine lv_i2b (v := nI (d % 8)) hx hb dX2_init_21 (fw_n2 d hd) ?_
  have h8 : d % 8 < 8 := Nat.mod_lt _ (by decide)
  refine va_putF (D := (dC, dI)) (ci := 2) (v := .int (nI (d % 8))) (ty := .byte) (C := RX2) (T := TX2) (N := 2) hx hb hts in_X2 tyX2 tyX2_ok nmX2 hown hK hP hD hS 0 rfl rfl 1 (by decide) (hts _ q108) (fun _ h9 => h9) rfl hin rfl (by decide +kernel) (fw_n5 h8) (fw_n6 h8) (Nat.le_of_ble_eq_true rfl) dX2_init_22 (fun H locs hP hD hS => ?_)
  have hP : va_P (dC, dI) fw_cl [(h0, fw_E ad d)] H := hP
  have hD : va_D A [(h0, fw_E ad d)] := hD
  exact W.vret hx hb hr (fun t ht hW => ⟨⟨(), rfl, trivial, by rw [ht]; exact hP, va_K.moved hW.alike hK, hD⟩, hS.F ht⟩) hS.2.2 dX2_init_25
end
section
/-! the search over the table, the whole search, FormatWord's two methods -/
/-- behind a search that finds R: u is the new FormatInformation's address, if any -/
abbrev fw_B (dC : Nat → ClassId) (dI : Nat → Nat → Nat) (ad : Nat → Nat) (A : Nat → Prop) (R : Option Nat) (u : Option Nat) (t : State) : Prop :=
  va_K (dC, dI) fw_cl [] t ∧ ∀ q, u = some q → ∀ d, R = some d → va_P (dC, dI) fw_cl [(q, fw_E ad d)] t.heap ∧ va_D A [(q, fw_E ad d)]
abbrev fw_QD (dC : Nat → ClassId) (dI : Nat → Nat → Nat) (ad : Nat → Nat) (sz : Nat) (R : Option Nat) : Array Value → State → Outcome → State → Prop :=
  va_Qq (fun r u => r = u ∧ u.isSome = R.isSome) (fw_B dC dI ad (va_A ([] : va_W) sz) R) (va_A ([] : va_W) sz)
/-- what a search starts from -/
abbrev fw_PD (dC : Nat → ClassId) (dI : Nat → Nat → Nat) (tT : Nat) (rw : Nat → Nat) (tF : Nat) (ad : Nat → Nat) (sz : Nat) (U : State) : Prop :=
  U.heap.size = sz ∧ va_K (dC, dI) fw_cl [] U ∧ fw_C tT rw tF ad (va_A ([] : va_W) sz) U U.heap
theorem fw_PD.blind {dC : Nat → ClassId} {dI : Nat → Nat → Nat} {tT : Nat} {rw : Nat → Nat} {tF : Nat} {ad : Nat → Nat} {sz : Nat} {av : List Value} : FrameBlind (va_Pc av (fw_PD dC dI tT rw tF ad sz)) := by
  intro a U g mk q
  obtain ⟨q0, q1, qK, qC⟩ := q
  exact ⟨q0, q1, va_K.moved (u := U) (U := U.calling g mk a) (Vm.Alike.refl U.vm) qK, fw_C.moved (u := U) (U := U.calling g mk a) (Vm.Alike.refl U.vm) qC⟩
theorem fw_PD.give {dC : Nat → ClassId} {dI : Nat → Nat → Nat} {tT : Nat} {rw : Nat → Nat} {tF : Nat} {ad : Nat → Nat} {A : Nat → Prop} {s U : State} {H : Heap} {locs : List Loc} (hC : fw_C tT rw tF ad A s s.heap) (hK : va_K (dC, dI) fw_cl [] s) (hS : va_S A s.heap H locs) (hF : ∀ q, va_A ([] : va_W) H.size q → A q) (hU : U.heap = H) (hvm : s.vm.Alike U.vm) : fw_PD dC dI tT rw tF ad H.size U := by
  refine ⟨by rw [hU], va_K.moved hvm hK, ?_⟩
  exact hC.give hS hF hU hvm
set_option maxHeartbeats 4000000 in
set_option maxRecDepth 100000 in
/-- FormatInformation.doDecodeFormatInformation(a, b) -/
theorem mt_do (l : Launch) (dC : Nat → ClassId) (dI : Nat → Nat → Nat) (tT : Nat) (rw : Nat → Nat) (tF : Nat) (ad : Nat → Nat) (sz : Nat) (a0 b0 : Int32) : Met l yX2_doDecodeFormatInformation (ws_ yX2_doDecodeFormatInformation cX2_doDecodeFormatInformation 10 (some (.object "FormatInformation"))) ({ frames := 2, cells := 1, slots := 2, locals := 41 }) (va_Pc [.int a0, .int b0] (fw_PD dC dI tT rw tF ad sz)) (fw_QD dC dI ad sz (fw_near a0 b0)) 1 2 (va_A ([] : va_W) sz) := by
  refine Met.ofW (cc := cX2_doDecodeFormatInformation) (maxL := 10) (ret := (some (.object "FormatInformation"))) (by decide) rfl ?_
  intro p e s m args below meth c s₁ B hml hv
  obtain ⟨rfl, hsz, hK, hC⟩ := hv
  have hx := B.exec
  have hb := B.bytes
  have hr := B.returns
  have hts := atoms_spec (ws := ws_ yX2_doDecodeFormatInformation cX2_doDecodeFormatInformation 10 (some (.object "FormatInformation"))) B.pre
  have hts : ∀ w ∈ lw_all, w.before _ s = true := fun w h => hts w (List.mem_cons_of_mem _ h)
  have hown : s.vm.findClass RX2 = some m.cls := findClass_of_methodNamed B.named
  have hlocks := B.notSynchronized
  subst hsz
  unfold fw_QD
  generalize hAe : va_A ([] : va_W) s.heap.size = A at hC ⊢
  have hA : ∀ q : Nat, s.heap.size ≤ q → A q := fun q h => by rw [← hAe]; exact Or.inr h
  have hP : va_P (dC, dI) fw_cl [] s.heap := fun k q h => by simp at h
  have hD : va_D A [] := ⟨fun i j p q h => by simp at h, fun k q h => by simp at h⟩
  have hS : va_S A s.heap s.heap [] := va_S.rf
  have hl := lv_entry ([.int a0, .int b0]) (n := 10) (Nat.le_of_ble_eq_true rfl)
  rw [lg_entry_eq]
  generalize (lg_sl ([.int a0, .int b0]) ++ List.replicate (10 - (lg_sl ([.int a0, .int b0])).length) Slot.unset).toArray = ls at hl ⊢
  have hl : lv_has ls 10 [(0, .int a0), (1, .int b0)] := hl
  obtain ⟨Wd, hWd⟩ : ∃ Wd : Heap → List Loc → Nat → Nat → JFrame → Prop, ∀ H locs n k g, Wd H locs n k g = W p l e (headSpec (ws_ yX2_doDecodeFormatInformation cX2_doDecodeFormatInformation 10 (some (.object "FormatInformation"))) ({ frames := 2, cells := 1, slots := 2, locals := 41 })).room s m ([.int a0, .int b0] : List Value).toArray below meth c H locs n k (MQ below (va_Qq (fun r u => r = u ∧ u.isSome = (fw_near a0 b0).isSome) (fw_B dC dI ad A (fw_near a0 b0)) A) ([.int a0, .int b0] : List Value).toArray s 1 2 A) g := ⟨fun H locs n k g => _, fun _ _ _ _ _ => rfl⟩
  -- a new FormatInformation is made, and handed back
  have KI : ∀ P : Nat, decode cX2_doDecodeFormatInformation P = .ok (.invokespecial 38, 3) → decode cX2_doDecodeFormatInformation (P + 3) = .ok (.areturn, 1) → ∀ d : Nat, d < 32 → fw_near a0 b0 = some d → ∀ (q : Nat) (H : Heap) (locs : List Loc) (ls : Array Slot), ls.size = 10 → va_P (dC, dI) fw_cl [(q, fw_E0)] H → va_D A [(q, fw_E0)] → va_S A s.heap H locs → Wd H locs 1 2 (F0 m P ls [.int (nI d), .ref q, .ref q]) := by
    intro P dP dR d hd hnear q H locs ls hlz hP hD hS
    rw [hWd]
    have hFc := va_free (wc := [(q, fw_E0)]) hD hS hA [0] rfl
    refine va_callv (va_runI (As := [.int (nI d)]) (rest := [.ref q]) ⟨hx, hb, hml, hown, hts⟩ (mt_finit l dC dI tT rw tF ad q H.size d hd) (cwI 1 hts (lw_meth q39) rfl rfl rfl (hts _ q5) (hts _ q37) (hts _ q38) rfl (by decide +kernel) ⟨Nat.le_of_ble_eq_true rfl, Nat.le_of_ble_eq_true rfl⟩) ⟨fun a U g mk q => by obtain ⟨q0, q1, qP, qK, qD, qC⟩ := q; exact ⟨q0, q1, qP, va_K.moved (u := U) (U := U.calling g mk a) (Vm.Alike.refl U.vm) qK, qD, fw_C.moved (u := U) (U := U.calling g mk a) (Vm.Alike.refl U.vm) qC⟩, fun U hU hW => ⟨rfl, by rw [hU], by rw [hU]; exact hP, va_K.moved hW.alike hK, hD.weaken (fun _ _ _ _ => trivial), hC.give hS hFc hU hW.alike⟩⟩ rfl rfl hlz rfl (lv_room (Nat.le_of_ble_eq_true rfl)) dP ⟨Nat.le_of_ble_eq_true rfl, Nat.le_of_ble_eq_true rfl⟩) hS (fun q _ h => hFc q h) hFc (fun u t H1 locs ht hvm hw hB hz1 hk1 hS => ?_)
    obtain ⟨hP1, hK1, hD1⟩ := hB
    rw [ht] at hP1
    refine W.widen (k := 1) (n := 2) (Nat.le_refl 1) (Nat.le_refl 2) ?_
    refine W.aret (v := .ref q) hx hb hr (Or.inl ⟨_, rfl⟩) (Or.inr ⟨_, rfl⟩) (fun t ht hW => ⟨⟨some q, some q, rfl, ⟨rfl, by rw [hnear]; rfl⟩, va_K.moved hW.alike hK, fun q2 e2 d2 e3 => ?_⟩, hS.F ht⟩) hS.2.2 dR
    cases e2
    cases hnear.symm.trans e3
    rw [ht]
    exact ⟨hP1, hD1.weaken (fun _ x _ h => hFc x.1 h)⟩
  have hMax : ∀ i, fw_b (fw_f a0 b0) i < 2 ^ 31 := fw_b_lt _
  have loop : ∀ n i : Nat, i + n = 32 → (∀ k, k < i → fw_f a0 b0 k ≠ 0) → ∀ (x2 x3 x6 : Int32), x2 = nI (fw_b (fw_f a0 b0) i) → x3 = nI (fw_g (fw_f a0 b0) i).2 → x6 = nI i → ∀ ls : Array Slot, lv_has ls 10 [(0, .int a0), (1, .int b0), (2, .int x2), (3, .int x3), (4, .ref tT), (5, .int (nI 32)), (6, .int x6)] → Wd s.heap [] 0 0 (F0 m 18 ls []) := by
    intro n
    induction n with
    | zero =>
      intro i hi hne x2 x3 x6 e2 e3 e6 ls hl
      have hi : i = 32 := hi
      subst hi
      have hin := fw_g_in (fw_f a0 b0) 32 (Nat.le_refl 32)
      have h99 := fw_g_99 (fw_f a0 b0) 32
      have e2 : x2 = nI (fw_g (fw_f a0 b0) 32).1 := e2
      rw [hWd]
      refine lv_iload hx hb dX2_doDecodeFormatInformation_18 (lv_at hl 6 rfl) ?_
      refine lv_iload hx hb dX2_doDecodeFormatInformation_20 (lv_at hl 5 rfl) ?_
      refine lv_icmp_ge (tgt := 117) hx hb dX2_doDecodeFormatInformation_22 (by decide) (fun c1 => ?_) (fun c1 => ?_)
      · refine lv_iload_n hx hb dX2_doDecodeFormatInformation_117 rfl (lv_at hl 2 rfl) ?_
        refine lv_iconst (v := 3) hx hb dX2_doDecodeFormatInformation_118 (by decide) ?_
        refine lv_icmp_gt (tgt := 131) hx hb dX2_doDecodeFormatInformation_119 (by decide) (fun c2 => ?_) (fun c2 => ?_)
        · have hgt : ¬ (fw_g (fw_f a0 b0) 32).1 ≤ 3 := by
            intro h
            exact absurd c2 (by rw [e2]; exact nI_nlt (a := 3) h (by decide))
          refine lv_null hx hb dX2_doDecodeFormatInformation_131 ?_
          refine W.widen (k := 1) (n := 2) (Nat.le_of_ble_eq_true rfl) (Nat.le_of_ble_eq_true rfl) ?_
          exact W.aret (v := .null) hx hb hr (Or.inl ⟨_, rfl⟩) (Or.inl rfl) (fun t ht hW => ⟨⟨none, none, rfl, ⟨rfl, by rw [fw_near_gt hgt]⟩, va_K.moved hW.alike hK, fun q2 e2 => by cases e2⟩, hS.F ht⟩) hS.2.2 dX2_doDecodeFormatInformation_132
        · have hle : (fw_g (fw_f a0 b0) 32).1 ≤ 3 := by
            rcases Nat.lt_or_ge 3 (fw_g (fw_f a0 b0) 32).1 with h | h
            · exact absurd (by rw [e2]; exact nI_lt (a := 3) h (by omega)) c2
            · exact h
          refine va_new (ci := 2) (fs := [.null, .int 0]) (C := RX2) (T := TX2) (N := 2) hx hb hts in_X2 tyX2 tyX2_ok hown (hts _ q35) (hts _ q36) (hts _ q5) hK hP hD hS hA rfl (fun j hj => by rcases (show j = 0 ∨ j = 1 by omega) with rfl | rfl <;> rfl) (Nat.le_of_ble_eq_true rfl) (Nat.le_of_ble_eq_true rfl) dX2_doDecodeFormatInformation_122 (fun q H hP hD hS => ?_)
          have hP : va_P (dC, dI) fw_cl [(q, fw_E0)] H := hP
          have hD : va_D A [(q, fw_E0)] := hD
          refine W.widen (k := 1) (n := 2) (Nat.le_refl 1) (Nat.le_refl 2) ?_
          refine lv_dup hx hb dX2_doDecodeFormatInformation_125 rfl ?_
          refine lv_iload_n hx hb dX2_doDecodeFormatInformation_126 rfl (lv_at hl 3 rfl) ?_
          have K := KI 127 dX2_doDecodeFormatInformation_127 dX2_doDecodeFormatInformation_130 _ hin (fw_near_le hle) q H [] ls hl.1 hP hD hS
          rw [hWd, ← e3] at K
          exact K
      · exact absurd (by rw [e6]; exact Int32.le_refl _) c1
    | succ n ih =>
      intro i hi hne x2 x3 x6 e2 e3 e6 ls hl
      have hlt : i < 32 := by omega
      have hb31 := hMax i
      have hf32 := fw_f_le a0 b0 i
      have hpa := fw_P_le (fw_W i ^^^ a0)
      have hpb := fw_P_le (fw_W i ^^^ b0)
      subst e6
      rw [hWd]
      refine lv_iload hx hb dX2_doDecodeFormatInformation_18 (lv_at hl 6 rfl) ?_
      refine lv_iload hx hb dX2_doDecodeFormatInformation_20 (lv_at hl 5 rfl) ?_
      refine lv_icmp_ge (tgt := 117) hx hb dX2_doDecodeFormatInformation_22 (by decide) (fun c1 => ?_) (fun c1 => ?_)
      · exact absurd c1 (nI_ge hlt (by decide))
      · refine lv_aload hx hb dX2_doDecodeFormatInformation_25 (lv_at hl 4 rfl) ?_
        refine lv_iload hx hb dX2_doDecodeFormatInformation_27 (lv_at hl 6 rfl) ?_
        refine fw_ta (v := .ref (rw i)) hx hb rfl hC.2.1 hS (vp_in_nI hlt (by decide)) (by show Value.ref (rw (nI i).toNatClampNeg) = _; rw [nI_clamp (by omega)]) dX2_doDecodeFormatInformation_29 ?_
        refine lv_astore (lv' := [(7, .ref (rw i)), (0, .int a0), (1, .int b0), (2, .int x2), (3, .int x3), (4, .ref tT), (5, .int (nI 32)), (6, .int (nI i))]) hx hb dX2_doDecodeFormatInformation_30 hl (by decide) rfl (fun ls hl => ?_)
        refine lv_aload hx hb dX2_doDecodeFormatInformation_32 (lv_at hl 0 rfl) ?_
        refine lv_iconst (v := 0) hx hb dX2_doDecodeFormatInformation_34 (by decide) ?_
        refine va_ti (v := .int (fw_W i)) hx hb (hC.2.2.1 i hlt) hS (show vp_in (nI 0) 2 from vp_in_nI (by decide) (by decide)) (by rw [sb_cl0]; rfl) dX2_doDecodeFormatInformation_35 ?_
        refine lv_istore (lv' := [(8, .int (fw_W i)), (7, .ref (rw i)), (0, .int a0), (1, .int b0), (2, .int x2), (3, .int x3), (4, .ref tT), (5, .int (nI 32)), (6, .int (nI i))]) hx hb dX2_doDecodeFormatInformation_36 hl (by decide) rfl (fun ls hl => ?_)
        -- the word is one of the two
        have K50 : (fw_W i = a0 ∨ fw_W i = b0) → Wd s.heap [] 0 0 (F0 m 50 ls []) := by
          intro hit
          rw [hWd]
          refine va_new (ci := 2) (fs := [.null, .int 0]) (C := RX2) (T := TX2) (N := 2) hx hb hts in_X2 tyX2 tyX2_ok hown (hts _ q35) (hts _ q36) (hts _ q5) hK hP hD hS hA rfl (fun j hj => by rcases (show j = 0 ∨ j = 1 by omega) with rfl | rfl <;> rfl) (Nat.le_of_ble_eq_true rfl) (Nat.le_of_ble_eq_true rfl) dX2_doDecodeFormatInformation_50 (fun q H hP hD hS => ?_)
          have hP : va_P (dC, dI) fw_cl [(q, fw_E0)] H := hP
          have hD : va_D A [(q, fw_E0)] := hD
          refine W.widen (k := 1) (n := 2) (Nat.le_refl 1) (Nat.le_refl 2) ?_
          refine lv_dup hx hb dX2_doDecodeFormatInformation_53 rfl ?_
          refine lv_aload hx hb dX2_doDecodeFormatInformation_54 (lv_at hl 1 rfl) ?_
          refine lv_iconst (v := 1) hx hb dX2_doDecodeFormatInformation_56 (by decide) ?_
          refine va_ti (v := .int (nI i)) hx hb (hC.2.2.1 i hlt) hS (show vp_in (nI 1) 2 from vp_in_nI (by decide) (by decide)) (by rw [show (1 : Int32).toNatClampNeg = 1 from by decide]; rfl) dX2_doDecodeFormatInformation_57 ?_
          have K := KI 58 dX2_doDecodeFormatInformation_58 dX2_doDecodeFormatInformation_61 i hlt (fw_near_hit hlt (fw_f_hit hit) hne) q H [] ls hl.1 hP hD hS
          rw [hWd] at K
          exact K
        -- the loop goes on
        have K111 : fw_f a0 b0 i ≠ 0 → ∀ (N j : Nat), fw_b (fw_f a0 b0) (i + 1) = N ∧ (fw_g (fw_f a0 b0) (i + 1)).2 = j → ∀ ls : Array Slot, lv_has ls 10 [(0, .int a0), (1, .int b0), (2, .int (nI N)), (3, .int (nI j)), (4, .ref tT), (5, .int (nI 32)), (6, .int (nI i))] → Wd s.heap [] 0 0 (F0 m 111 ls []) := by
          intro hmiss N j hNj ls hl
          rw [hWd]
          obtain ⟨y6, ey6⟩ : ∃ y : Int32, y = nI i + 1 := ⟨_, rfl⟩
          refine lv_iinc (v := y6) (lv' := [(6, .int y6), (0, .int a0), (1, .int b0), (2, .int (nI N)), (3, .int (nI j)), (4, .ref tT), (5, .int (nI 32))]) hx hb dX2_doDecodeFormatInformation_111 hl (k := 6) rfl (by rw [ey6]; rfl) (by decide) rfl (fun ls hl => ?_)
          refine lv_goto (tgt := 18) hx hb dX2_doDecodeFormatInformation_114 (by decide) ?_
          have K := ih (i + 1) (by omega) (fun k hk => by
            rcases Nat.lt_or_ge k i with h | h
            · exact hne k h
            · rw [show k = i by omega]; exact hmiss) (nI N) (nI j) y6 (by rw [hNj.1]) (by rw [hNj.2]) (by rw [ey6]; exact nI_1 i) ls (lv_sub hl [1, 2, 3, 4, 5, 6, 0] rfl)
          rw [hWd] at K
          exact K
        -- the second of the two
        have K84 : fw_f a0 b0 i ≠ 0 → ∀ (N j : Nat), N < 2 ^ 31 → (N = fw_b (fw_f a0 b0) i ∧ j = (fw_g (fw_f a0 b0) i).2 ∧ ¬ fw_P (fw_W i ^^^ a0) < fw_b (fw_f a0 b0) i ∨ N = fw_P (fw_W i ^^^ a0) ∧ j = i ∧ fw_P (fw_W i ^^^ a0) < fw_b (fw_f a0 b0) i) → ∀ ls : Array Slot, lv_has ls 10 [(0, .int a0), (1, .int b0), (2, .int (nI N)), (3, .int (nI j)), (4, .ref tT), (5, .int (nI 32)), (6, .int (nI i)), (7, .ref (rw i)), (8, .int (fw_W i))] → Wd s.heap [] 0 0 (F0 m 84 ls []) := by
          intro hmiss N j hN hNj ls hl
          rw [hWd]
          refine lv_iload_n hx hb dX2_doDecodeFormatInformation_84 rfl (lv_at hl 0 rfl) ?_
          refine lv_iload_n hx hb dX2_doDecodeFormatInformation_85 rfl (lv_at hl 1 rfl) ?_
          refine lv_icmp_eq (tgt := 111) hx hb dX2_doDecodeFormatInformation_86 (by decide) (fun c2 => ?_) (fun c2 => ?_)
          · have hf : fw_f a0 b0 i = fw_P (fw_W i ^^^ a0) := by
              unfold fw_f
              rw [← c2]
              exact ite_self _
            have K := K111 hmiss N j (by
              rcases hNj with ⟨h1, h2, h3⟩ | ⟨h1, h2, h3⟩
              · rw [h1, h2]
                exact fw_s0 hf32 (by rw [hf]; exact h3)
              · rw [h1, h2]
                exact fw_s1 hf hpa h3) ls (lv_sub hl [0, 1, 2, 3, 4, 5, 6] rfl)
            rw [hWd] at K
            exact K
          · refine lv_iload_n hx hb dX2_doDecodeFormatInformation_89 rfl (lv_at hl 1 rfl) ?_
            refine lv_iload hx hb dX2_doDecodeFormatInformation_90 (lv_at hl 8 rfl) ?_
            refine vp_callSi (W.runS (As := [.int b0, .int (fw_W i)]) (rest := []) ⟨hx, hb, hml, hown, hts⟩ (mt_numBits l b0 (fw_W i)) (va_cwS 2 hts (lw_S q114 q115 q5 q116) rfl rfl rfl (by decide +kernel) ⟨Nat.le_of_ble_eq_true rfl, Nat.le_of_ble_eq_true rfl⟩) fw_pre rfl rfl hl.1 rfl (lv_room (Nat.le_of_ble_eq_true rfl)) dX2_doDecodeFormatInformation_92 ⟨Nat.le_of_ble_eq_true rfl, Nat.le_of_ble_eq_true rfl⟩) (fun x9 e9 => ?_)
            have e9 : x9 = nI (fw_P (fw_W i ^^^ b0)) := by rw [fw_xorC]; exact e9
            subst e9
            refine lv_istore (lv' := [(9, .int (nI (fw_P (fw_W i ^^^ b0)))), (0, .int a0), (1, .int b0), (2, .int (nI N)), (3, .int (nI j)), (4, .ref tT), (5, .int (nI 32)), (6, .int (nI i)), (7, .ref (rw i)), (8, .int (fw_W i))]) hx hb dX2_doDecodeFormatInformation_95 hl (by decide) rfl (fun ls hl => ?_)
            refine lv_iload hx hb dX2_doDecodeFormatInformation_97 (lv_at hl 0 rfl) ?_
            refine lv_iload_n hx hb dX2_doDecodeFormatInformation_99 rfl (lv_at hl 3 rfl) ?_
            refine lv_icmp_ge (tgt := 111) hx hb dX2_doDecodeFormatInformation_100 (by decide) (fun c3 => ?_) (fun c3 => ?_)
            · have hq : N ≤ fw_P (fw_W i ^^^ b0) := (nI_leI hN (by omega)).mp c3
              have K := K111 hmiss N j (by
                rcases hNj with ⟨h1, h2, h3⟩ | ⟨h1, h2, h3⟩
                · rw [h1, h2]
                  have hfi : fw_P (fw_W i ^^^ a0) ≤ fw_f a0 b0 i ∨ fw_P (fw_W i ^^^ b0) ≤ fw_f a0 b0 i := by
                    unfold fw_f
                    split
                    · exact Or.inl (Nat.le_refl _)
                    · exact Or.inr (Nat.le_refl _)
                  exact fw_s0 hf32 (by omega)
                · rw [h1, h2]
                  refine fw_s1 ?_ hpa h3
                  unfold fw_f
                  split <;> omega) ls (lv_sub hl [1, 2, 3, 4, 5, 6, 7] rfl)
              rw [hWd] at K
              exact K
            · have hq : fw_P (fw_W i ^^^ b0) < N := by
                rcases Nat.lt_or_ge (fw_P (fw_W i ^^^ b0)) N with h | h
                · exact h
                · exact absurd (nI_le h (by omega)) c3
              refine lv_aload hx hb dX2_doDecodeFormatInformation_103 (lv_at hl 8 rfl) ?_
              refine lv_iconst (v := 1) hx hb dX2_doDecodeFormatInformation_105 (by decide) ?_
              refine va_ti (v := .int (nI i)) hx hb (hC.2.2.1 i hlt) hS (show vp_in (nI 1) 2 from vp_in_nI (by decide) (by decide)) (by rw [show (1 : Int32).toNatClampNeg = 1 from by decide]; rfl) dX2_doDecodeFormatInformation_106 ?_
              refine lv_istore_n (lv' := [(3, .int (nI i)), (9, .int (nI (fw_P (fw_W i ^^^ b0)))), (0, .int a0), (1, .int b0), (2, .int (nI N)), (4, .ref tT), (5, .int (nI 32)), (6, .int (nI i)), (7, .ref (rw i)), (8, .int (fw_W i))]) hx hb dX2_doDecodeFormatInformation_107 rfl hl (by decide) rfl (fun ls hl => ?_)
              refine lv_iload hx hb dX2_doDecodeFormatInformation_108 (lv_at hl 1 rfl) ?_
              refine lv_istore_n (lv' := [(2, .int (nI (fw_P (fw_W i ^^^ b0)))), (3, .int (nI i)), (9, .int (nI (fw_P (fw_W i ^^^ b0)))), (0, .int a0), (1, .int b0), (4, .ref tT), (5, .int (nI 32)), (6, .int (nI i)), (7, .ref (rw i)), (8, .int (fw_W i))]) hx hb dX2_doDecodeFormatInformation_110 rfl hl (by decide) rfl (fun ls hl => ?_)
              have K := K111 hmiss (fw_P (fw_W i ^^^ b0)) i (by
                refine fw_s1 ?_ hpb ?_
                · unfold fw_f
                  rcases hNj with ⟨h1, h2, h3⟩ | ⟨h1, h2, h3⟩ <;> split <;> omega
                · rcases hNj with ⟨h1, h2, h3⟩ | ⟨h1, h2, h3⟩ <;> omega) ls (lv_sub hl [3, 4, 0, 1, 5, 6, 7] rfl)
              rw [hWd] at K
              exact K
        -- the word is neither
        have K62 : ¬ fw_W i = a0 → ¬ fw_W i = b0 → Wd s.heap [] 0 0 (F0 m 62 ls []) := by
          intro n1 n2
          have hmiss := fw_f_miss n1 n2
          rw [hWd]
          refine lv_iload_n hx hb dX2_doDecodeFormatInformation_62 rfl (lv_at hl 2 rfl) ?_
          refine lv_iload hx hb dX2_doDecodeFormatInformation_63 (lv_at hl 0 rfl) ?_
          refine vp_callSi (W.runS (As := [.int a0, .int (fw_W i)]) (rest := []) ⟨hx, hb, hml, hown, hts⟩ (mt_numBits l a0 (fw_W i)) (va_cwS 2 hts (lw_S q114 q115 q5 q116) rfl rfl rfl (by decide +kernel) ⟨Nat.le_of_ble_eq_true rfl, Nat.le_of_ble_eq_true rfl⟩) fw_pre rfl rfl hl.1 rfl (lv_room (Nat.le_of_ble_eq_true rfl)) dX2_doDecodeFormatInformation_65 ⟨Nat.le_of_ble_eq_true rfl, Nat.le_of_ble_eq_true rfl⟩) (fun x9 e9 => ?_)
          have e9 : x9 = nI (fw_P (fw_W i ^^^ a0)) := by rw [fw_xorC]; exact e9
          subst e9
          refine lv_istore (lv' := [(9, .int (nI (fw_P (fw_W i ^^^ a0)))), (8, .int (fw_W i)), (7, .ref (rw i)), (0, .int a0), (1, .int b0), (2, .int x2), (3, .int x3), (4, .ref tT), (5, .int (nI 32)), (6, .int (nI i))]) hx hb dX2_doDecodeFormatInformation_68 hl (by decide) rfl (fun ls hl => ?_)
          refine lv_iload hx hb dX2_doDecodeFormatInformation_70 (lv_at hl 0 rfl) ?_
          refine lv_iload_n hx hb dX2_doDecodeFormatInformation_72 rfl (lv_at hl 5 rfl) ?_
          refine lv_icmp_ge (tgt := 84) hx hb dX2_doDecodeFormatInformation_73 (by decide) (fun c3 => ?_) (fun c3 => ?_)
          · subst e2
            subst e3
            have hq : fw_b (fw_f a0 b0) i ≤ fw_P (fw_W i ^^^ a0) := (nI_leI hb31 (by omega)).mp c3
            have K := K84 hmiss _ _ hb31 (Or.inl ⟨rfl, rfl, by omega⟩) ls (lv_sub hl [3, 4, 5, 6, 7, 8, 9, 2, 1] rfl)
            rw [hWd] at K
            exact K
          · have hq : fw_P (fw_W i ^^^ a0) < fw_b (fw_f a0 b0) i := by
              rcases Nat.lt_or_ge (fw_P (fw_W i ^^^ a0)) (fw_b (fw_f a0 b0) i) with h | h
              · exact h
              · exact absurd (by rw [e2]; exact nI_le h (by omega)) c3
            refine lv_aload hx hb dX2_doDecodeFormatInformation_76 (lv_at hl 2 rfl) ?_
            refine lv_iconst (v := 1) hx hb dX2_doDecodeFormatInformation_78 (by decide) ?_
            refine va_ti (v := .int (nI i)) hx hb (hC.2.2.1 i hlt) hS (show vp_in (nI 1) 2 from vp_in_nI (by decide) (by decide)) (by rw [show (1 : Int32).toNatClampNeg = 1 from by decide]; rfl) dX2_doDecodeFormatInformation_79 ?_
            refine lv_istore_n (lv' := [(3, .int (nI i)), (9, .int (nI (fw_P (fw_W i ^^^ a0)))), (8, .int (fw_W i)), (7, .ref (rw i)), (0, .int a0), (1, .int b0), (2, .int x2), (4, .ref tT), (5, .int (nI 32)), (6, .int (nI i))]) hx hb dX2_doDecodeFormatInformation_80 rfl hl (by decide) rfl (fun ls hl => ?_)
            refine lv_iload hx hb dX2_doDecodeFormatInformation_81 (lv_at hl 1 rfl) ?_
            refine lv_istore_n (lv' := [(2, .int (nI (fw_P (fw_W i ^^^ a0)))), (3, .int (nI i)), (9, .int (nI (fw_P (fw_W i ^^^ a0)))), (8, .int (fw_W i)), (7, .ref (rw i)), (0, .int a0), (1, .int b0), (4, .ref tT), (5, .int (nI 32)), (6, .int (nI i))]) hx hb dX2_doDecodeFormatInformation_83 rfl hl (by decide) rfl (fun ls hl => ?_)
            have K := K84 hmiss _ _ (by omega) (Or.inr ⟨rfl, rfl, hq⟩) ls (lv_sub hl [5, 6, 0, 1, 7, 8, 9, 4, 3] rfl)
            rw [hWd] at K
            exact K
        rw [hWd] at K50 K62
        refine lv_iload hx hb dX2_doDecodeFormatInformation_38 (lv_at hl 0 rfl) ?_
        refine lv_iload_n hx hb dX2_doDecodeFormatInformation_40 rfl (lv_at hl 2 rfl) ?_
        refine lv_icmp_eq (tgt := 50) hx hb dX2_doDecodeFormatInformation_41 (by decide) (fun c2 => K50 (Or.inl c2)) (fun c2 => ?_)
        refine lv_iload hx hb dX2_doDecodeFormatInformation_44 (lv_at hl 0 rfl) ?_
        refine lv_iload_n hx hb dX2_doDecodeFormatInformation_46 rfl (lv_at hl 3 rfl) ?_
        exact lv_icmp_ne (tgt := 62) hx hb dX2_doDecodeFormatInformation_47 (by decide) (fun c3 => K62 c2 c3) (fun c3 => K50 (Or.inr c3))
  refine lv_ldc hx hb hown (hts _ q32) dX2_doDecodeFormatInformation_0 ?_
  refine lv_istore_n (lv' := [(2, .int 2147483647), (0, .int a0), (1, .int b0)]) hx hb dX2_doDecodeFormatInformation_2 rfl hl (by decide) rfl (fun ls hl => ?_)
  refine lv_iconst (v := 0) hx hb dX2_doDecodeFormatInformation_3 (by decide) ?_
  refine lv_istore_n (lv' := [(3, .int 0), (2, .int 2147483647), (0, .int a0), (1, .int b0)]) hx hb dX2_doDecodeFormatInformation_4 rfl hl (by decide) rfl (fun ls hl => ?_)
  refine va_gets hx hb hC.1 hS hown (hts _ q33) (fun _ h => h) dX2_doDecodeFormatInformation_5 ?_
  refine lv_astore (lv' := [(4, .ref tT), (3, .int 0), (2, .int 2147483647), (0, .int a0), (1, .int b0)]) hx hb dX2_doDecodeFormatInformation_8 hl (by decide) rfl (fun ls hl => ?_)
  refine lv_aload hx hb dX2_doDecodeFormatInformation_10 (lv_at hl 0 rfl) ?_
  refine va_tlen (v := nI 32) hx hb hC.2.1 hS rfl dX2_doDecodeFormatInformation_12 ?_
  refine lv_istore (lv' := [(5, .int (nI 32)), (4, .ref tT), (3, .int 0), (2, .int 2147483647), (0, .int a0), (1, .int b0)]) hx hb dX2_doDecodeFormatInformation_13 hl (by decide) rfl (fun ls hl => ?_)
  refine lv_iconst (v := 0) hx hb dX2_doDecodeFormatInformation_15 (by decide) ?_
  refine lv_istore (lv' := [(6, .int 0), (5, .int (nI 32)), (4, .ref tT), (3, .int 0), (2, .int 2147483647), (0, .int a0), (1, .int b0)]) hx hb dX2_doDecodeFormatInformation_16 hl (by decide) rfl (fun ls hl => ?_)
  have K := loop 32 0 rfl (fun k h => absurd h (Nat.not_lt_zero k)) 2147483647 0 0 rfl nI_0.symm nI_0.symm ls (lv_sub hl [5, 6, 4, 3, 2, 1, 0] rfl)
  rw [hWd] at K
  exact K
end
section
set_option maxHeartbeats 4000000 in
set_option maxRecDepth 100000 in
/-- FormatInformation.decodeFormatInformation(a, b) -/
theorem mt_dec (l : Launch) (dC : Nat → ClassId) (dI : Nat → Nat → Nat) (tT : Nat) (rw : Nat → Nat) (tF : Nat) (ad : Nat → Nat) (sz : Nat) (a0 b0 : Int32) : Met l yX2_decodeFormatInformation (ws_ yX2_decodeFormatInformation cX2_decodeFormatInformation 3 (some (.object "FormatInformation"))) ({ frames := 3, cells := 2, slots := 4, locals := 70 }) (va_Pc [.int a0, .int b0] (fw_PD dC dI tT rw tF ad sz)) (fw_QD dC dI ad sz (fw_dec a0 b0)) 2 4 (va_A ([] : va_W) sz) := by
  refine Met.ofW (cc := cX2_decodeFormatInformation) (maxL := 3) (ret := (some (.object "FormatInformation"))) (by decide) rfl ?_
  intro p e s m args below meth c s₁ B hml hv
  obtain ⟨rfl, hsz, hK, hC⟩ := hv
  have hx := B.exec
  have hb := B.bytes
  have hr := B.returns
  have hts := atoms_spec (ws := ws_ yX2_decodeFormatInformation cX2_decodeFormatInformation 3 (some (.object "FormatInformation"))) B.pre
  have hts : ∀ w ∈ lw_all, w.before _ s = true := fun w h => hts w (List.mem_cons_of_mem _ h)
  have hown : s.vm.findClass RX2 = some m.cls := findClass_of_methodNamed B.named
  have hlocks := B.notSynchronized
  subst hsz
  unfold fw_QD
  generalize hAe : va_A ([] : va_W) s.heap.size = A at hC ⊢
  have hA : ∀ q : Nat, s.heap.size ≤ q → A q := fun q h => by rw [← hAe]; exact Or.inr h
  have hD : va_D A [] := ⟨fun i j p q h => by simp at h, fun k q h => by simp at h⟩
  have hS : va_S A s.heap s.heap [] := va_S.rf
  have hl := lv_entry ([.int a0, .int b0]) (n := 3) (Nat.le_of_ble_eq_true rfl)
  rw [lg_entry_eq]
  generalize (lg_sl ([.int a0, .int b0]) ++ List.replicate (3 - (lg_sl ([.int a0, .int b0])).length) Slot.unset).toArray = ls at hl ⊢
  have hl : lv_has ls 3 [(0, .int a0), (1, .int b0)] := hl
  refine lv_iload_n hx hb dX2_decodeFormatInformation_0 rfl (lv_at hl 0 rfl) ?_
  refine lv_iload_n hx hb dX2_decodeFormatInformation_1 rfl (lv_at hl 1 rfl) ?_
  have hFc := va_free (wc := []) hD hS hA [] rfl
  refine va_callq (va_runS (As := [.int a0, .int b0]) (rest := []) ⟨hx, hb, hml, hown, hts⟩ (mt_do l dC dI tT rw tF ad s.heap.size a0 b0) (va_cwS 2 hts (lw_S q29 q30 q5 q31) rfl rfl rfl (by decide +kernel) ⟨Nat.le_of_ble_eq_true rfl, Nat.le_of_ble_eq_true rfl⟩) ⟨fw_PD.blind, fun U hU hW => ⟨rfl, fw_PD.give hC hK hS hFc hU hW.alike⟩⟩ rfl rfl hl.1 rfl (lv_room (Nat.le_of_ble_eq_true rfl)) dX2_decodeFormatInformation_2 ⟨Nat.le_of_ble_eq_true rfl, Nat.le_of_ble_eq_true rfl⟩) hS (fun q _ h => hFc q h) hFc (fun r u t H1 locs ht hvm hw hB hz1 hk1 hS => ?_)
  obtain ⟨rfl, hsm⟩ := hw
  obtain ⟨hK1, hB⟩ := hB
  cases r with
  | none =>
    have hn : fw_near a0 b0 = none := by
      cases h : fw_near a0 b0 with
      | none => rfl
      | some d => rw [h] at hsm; cases hsm
    refine lv_astore_nN (lv' := [(2, .null), (0, .int a0), (1, .int b0)]) hx hb dX2_decodeFormatInformation_5 rfl hl (by decide) rfl (fun ls hl => ?_)
    refine lv_aload_nN hx hb dX2_decodeFormatInformation_6 rfl (lv_at hl 0 rfl) ?_
    refine lv_ifnullN (tgt := 12) hx hb dX2_decodeFormatInformation_7 (by decide) ?_
    refine lv_iload_n hx hb dX2_decodeFormatInformation_12 rfl (lv_at hl 1 rfl) ?_
    refine lv_sipush (v := 21522) hx hb dX2_decodeFormatInformation_13 (by decide) ?_
    refine lv_ixor hx hb dX2_decodeFormatInformation_16 ?_
    refine lv_iload_n hx hb dX2_decodeFormatInformation_17 rfl (lv_at hl 2 rfl) ?_
    refine lv_sipush (v := 21522) hx hb dX2_decodeFormatInformation_18 (by decide) ?_
    refine lv_ixor hx hb dX2_decodeFormatInformation_21 ?_
    have hFd := va_free (wc := []) hD hS hA [] rfl
    refine va_callq (va_runS (As := [.int (a0 ^^^ 21522), .int (b0 ^^^ 21522)]) (rest := []) ⟨hx, hb, hml, hown, hts⟩ (mt_do l dC dI tT rw tF ad H1.size (a0 ^^^ 21522) (b0 ^^^ 21522)) (va_cwS 2 hts (lw_S q29 q30 q5 q31) rfl rfl rfl (by decide +kernel) ⟨Nat.le_of_ble_eq_true rfl, Nat.le_of_ble_eq_true rfl⟩) ⟨fw_PD.blind, fun U hU hW => ⟨rfl, fw_PD.give hC hK hS hFd hU hW.alike⟩⟩ rfl rfl hl.1 rfl (lv_room (Nat.le_of_ble_eq_true rfl)) dX2_decodeFormatInformation_22 ⟨Nat.le_of_ble_eq_true rfl, Nat.le_of_ble_eq_true rfl⟩) hS (fun q _ h => hFd q h) hFd (fun r u t H2 locs ht hvm hw hB hz1 hk1 hS => ?_)
    obtain ⟨rfl, hsm⟩ := hw
    obtain ⟨hK1, hB⟩ := hB
    have hd : fw_dec a0 b0 = fw_near (a0 ^^^ 21522) (b0 ^^^ 21522) := by unfold fw_dec; rw [hn]
    rw [ht] at hB
    refine W.widen (k := 2) (n := 4) (Nat.le_refl 2) (Nat.le_refl 4) ?_
    refine W.aret (v := va_rf r) hx hb hr (Or.inl ⟨_, rfl⟩) (va_rf_or r) (fun t ht hW => ⟨⟨r, r, rfl, ⟨rfl, by rw [hd]; exact hsm⟩, va_K.moved hW.alike hK, fun q2 e2 d2 e3 => ?_⟩, hS.F ht⟩) hS.2.2 dX2_decodeFormatInformation_25
    rw [hd] at e3
    rw [ht]
    exact ⟨(hB q2 e2 d2 e3).1, (hB q2 e2 d2 e3).2.weaken (fun _ x _ h => hFd x.1 h)⟩
  | some q =>
    obtain ⟨d, hn⟩ : ∃ d, fw_near a0 b0 = some d := by
      cases h : fw_near a0 b0 with
      | none => rw [h] at hsm; cases hsm
      | some d => exact ⟨d, rfl⟩
    have hd : fw_dec a0 b0 = some d := by unfold fw_dec; rw [hn]
    rw [ht] at hB
    refine lv_astore_n (lv' := [(2, .ref q), (0, .int a0), (1, .int b0)]) hx hb dX2_decodeFormatInformation_5 rfl hl (by decide) rfl (fun ls hl => ?_)
    refine lv_aload_n hx hb dX2_decodeFormatInformation_6 rfl (lv_at hl 0 rfl) ?_
    refine lv_ifnull hx hb dX2_decodeFormatInformation_7 ?_
    refine lv_aload_n hx hb dX2_decodeFormatInformation_10 rfl (lv_at hl 0 rfl) ?_
    refine W.widen (k := 2) (n := 4) (Nat.le_of_ble_eq_true rfl) (Nat.le_of_ble_eq_true rfl) ?_
    refine W.aret (v := .ref q) hx hb hr (Or.inl ⟨_, rfl⟩) (Or.inr ⟨_, rfl⟩) (fun t ht hW => ⟨⟨some q, some q, rfl, ⟨rfl, by rw [hd]; rfl⟩, va_K.moved hW.alike hK, fun q2 e2 d2 e3 => ?_⟩, hS.F ht⟩) hS.2.2 dX2_decodeFormatInformation_11
    rw [hd] at e3
    rw [ht]
    exact ⟨(hB q2 e2 d2 (hn.trans e3)).1, (hB q2 e2 d2 (hn.trans e3)).2.weaken (fun _ x _ h => hFc x.1 h)⟩
set_option maxHeartbeats 4000000 in
set_option maxRecDepth 100000 in
/-- FormatWord.read(a, b) -/
theorem mt_read (l : Launch) (dC : Nat → ClassId) (dI : Nat → Nat → Nat) (tT : Nat) (rw : Nat → Nat) (tF : Nat) (ad : Nat → Nat) (sz h0 : Nat) (a0 b0 : Int32) : Met l yX0_read (ws_ yX0_read cX0_read 4 (some .int)) ({ frames := 4, cells := 2, slots := 4, locals := 92 }) (va_Pc [.ref h0, .int a0, .int b0] (fw_PD dC dI tT rw tF ad sz)) (va_Qi (fun (r : Int32) (_ : Unit) => r = fw_ans (fw_dec a0 b0)) (fun _ _ => True) (va_A ([] : va_W) sz)) 2 4 (va_A ([] : va_W) sz) := by
  refine Met.ofW (cc := cX0_read) (maxL := 4) (ret := (some .int)) (by decide) rfl ?_
  intro p e s m args below meth c s₁ B hml hv
  obtain ⟨rfl, hsz, hK, hC⟩ := hv
  have hx := B.exec
  have hb := B.bytes
  have hr := B.returns
  have hts := atoms_spec (ws := ws_ yX0_read cX0_read 4 (some .int)) B.pre
  have hts : ∀ w ∈ lw_all, w.before _ s = true := fun w h => hts w (List.mem_cons_of_mem _ h)
  have hown : s.vm.findClass RX0 = some m.cls := findClass_of_methodNamed B.named
  have hlocks := B.notSynchronized
  subst hsz
  generalize hAe : va_A ([] : va_W) s.heap.size = A at hC ⊢
  have hA : ∀ q : Nat, s.heap.size ≤ q → A q := fun q h => by rw [← hAe]; exact Or.inr h
  have hD : va_D A [] := ⟨fun i j p q h => by simp at h, fun k q h => by simp at h⟩
  have hS : va_S A s.heap s.heap [] := va_S.rf
  have hl := lv_entry ([.ref h0, .int a0, .int b0]) (n := 4) (Nat.le_of_ble_eq_true rfl)
  rw [lg_entry_eq]
  generalize (lg_sl ([.ref h0, .int a0, .int b0]) ++ List.replicate (4 - (lg_sl ([.ref h0, .int a0, .int b0])).length) Slot.unset).toArray = ls at hl ⊢
  have hl : lv_has ls 4 [(0, .ref h0), (1, .int a0), (2, .int b0)] := hl
  refine lv_iload_n hx hb dX0_read_0 rfl (lv_at hl 1 rfl) ?_
  refine lv_iload_n hx hb dX0_read_1 rfl (lv_at hl 2 rfl) ?_
  have hFc := va_free (wc := []) hD hS hA [] rfl
  refine va_callq (va_runS (As := [.int a0, .int b0]) (rest := []) ⟨hx, hb, hml, hown, hts⟩ (mt_dec l dC dI tT rw tF ad s.heap.size a0 b0) (va_cwS 2 hts (lw_S q26 q27 q5 q28) rfl rfl rfl (by decide +kernel) ⟨Nat.le_of_ble_eq_true rfl, Nat.le_of_ble_eq_true rfl⟩) ⟨fw_PD.blind, fun U hU hW => ⟨rfl, fw_PD.give hC hK hS hFc hU hW.alike⟩⟩ rfl rfl hl.1 rfl (lv_room (Nat.le_of_ble_eq_true rfl)) dX0_read_2 ⟨Nat.le_of_ble_eq_true rfl, Nat.le_of_ble_eq_true rfl⟩) hS (fun q _ h => hFc q h) hFc (fun r u t H1 locs ht hvm hw hB hz1 hk1 hS => ?_)
  obtain ⟨rfl, hsm⟩ := hw
  obtain ⟨hK1, hB⟩ := hB
  refine W.widen (k := 2) (n := 4) (Nat.le_refl 2) (Nat.le_refl 4) ?_
  cases r with
  | none =>
    have hn : fw_dec a0 b0 = none := by
      cases h : fw_dec a0 b0 with
      | none => rfl
      | some d => rw [h] at hsm; cases hsm
    refine lv_astore_nN (lv' := [(3, .null), (0, .ref h0), (1, .int a0), (2, .int b0)]) hx hb dX0_read_5 rfl hl (by decide) rfl (fun ls hl => ?_)
    refine lv_aload_nN hx hb dX0_read_6 rfl (lv_at hl 0 rfl) ?_
    refine lv_ifnonnullN hx hb dX0_read_7 ?_
    refine lv_iconst (v := -1) hx hb dX0_read_10 (by decide) ?_
    refine lv_goto (tgt := 28) hx hb dX0_read_11 (by decide) ?_
    exact W.iret (v := -1) hx hb hr (fun t ht hW => ⟨⟨-1, (), rfl, by rw [hn]; rfl, trivial⟩, hS.F ht⟩) hS.2.2 dX0_read_28
  | some q =>
    obtain ⟨d, hn⟩ : ∃ d, fw_dec a0 b0 = some d := by
      cases h : fw_dec a0 b0 with
      | none => rw [h] at hsm; cases hsm
      | some d => exact ⟨d, rfl⟩
    have hd := fw_dec_in hn
    rw [ht] at hB
    have hP : va_P (dC, dI) fw_cl [(q, fw_E ad d)] H1 := (hB q rfl d hn).1
    refine lv_astore_n (lv' := [(3, .ref q), (0, .ref h0), (1, .int a0), (2, .int b0)]) hx hb dX0_read_5 rfl hl (by decide) rfl (fun ls hl => ?_)
    refine lv_aload_n hx hb dX0_read_6 rfl (lv_at hl 0 rfl) ?_
    refine lv_ifnonnull (tgt := 14) hx hb dX0_read_7 (by decide) ?_
    refine lv_aload_n hx hb dX0_read_14 rfl (lv_at hl 0 rfl) ?_
    refine va_csr (W.runV (As := []) (rest := []) ⟨hx, hb, hml, hown, hts⟩ (mt_getECL l dC dI ad q d) (cwV 0 hts (lw_V q123 q124 q125 q5 q126) rfl rfl rfl (by decide +kernel) ⟨Nat.le_of_ble_eq_true rfl, Nat.le_of_ble_eq_true rfl⟩) ⟨fun a U g mk q => by obtain ⟨q0, qP, qK⟩ := q; exact ⟨q0, qP, va_K.moved (u := U) (U := U.calling g mk a) (Vm.Alike.refl U.vm) qK⟩, va_recv hK hP (ci := 2) (q0 := 0) rfl rfl, fun U hU hW => ⟨rfl, by rw [hU]; exact hP, va_K.moved hW.alike hK⟩⟩ rfl rfl hl.1 rfl (lv_room (Nat.le_of_ble_eq_true rfl)) dX0_read_15 ⟨Nat.le_of_ble_eq_true rfl, Nat.le_of_ble_eq_true rfl⟩) (fun k ek => ?_)
    have ek : k = ad (d / 8) := ek
    subst ek
    have h4 : d / 8 < 4 := by omega
    refine vp_callSi (W.runV (As := []) (rest := []) ⟨hx, hb, hml, hown, hts⟩ (mt_getBits l tT rw tF ad (d / 8) h4) (cwV 0 hts (lw_V q127 q128 q129 q7 q130) rfl rfl rfl (by decide +kernel) ⟨Nat.le_of_ble_eq_true rfl, Nat.le_of_ble_eq_true rfl⟩) ⟨fun a U g mk q => ⟨q.1, fw_C.moved (u := U) (U := U.calling g mk a) (Vm.Alike.refl U.vm) q.2⟩, va_recvE hC.2.2.2.2.2 h4 hS, fun U hU hW => ⟨rfl, hC.give hS (fun _ h => h.elim) hU hW.alike⟩⟩ rfl rfl hl.1 rfl (lv_room (Nat.le_of_ble_eq_true rfl)) dX0_read_18 ⟨Nat.le_of_ble_eq_true rfl, Nat.le_of_ble_eq_true rfl⟩) (fun x1 e1 => ?_)
    have e1 : x1 = nI (d / 8) := e1
    subst e1
    refine lv_iconst (v := 3) hx hb dX0_read_21 (by decide) ?_
    refine lv_ishl hx hb dX0_read_22 ?_
    refine lv_aload_n hx hb dX0_read_23 rfl (lv_at hl 0 rfl) ?_
    refine vp_callSi (W.runV (As := []) (rest := [.int (nI (d / 8) <<< ((3 : Int32) &&& 31))]) ⟨hx, hb, hml, hown, hts⟩ (mt_getMask l dC dI ad q d) (cwV 0 hts (lw_V q131 q132 q133 q5 q134) rfl rfl rfl (by decide +kernel) ⟨Nat.le_of_ble_eq_true rfl, Nat.le_of_ble_eq_true rfl⟩) ⟨fun a U g mk q => by obtain ⟨q0, qP, qK⟩ := q; exact ⟨q0, qP, va_K.moved (u := U) (U := U.calling g mk a) (Vm.Alike.refl U.vm) qK⟩, va_recv hK hP (ci := 2) (q0 := 0) rfl rfl, fun U hU hW => ⟨rfl, by rw [hU]; exact hP, va_K.moved hW.alike hK⟩⟩ rfl rfl hl.1 rfl (lv_room (Nat.le_of_ble_eq_true rfl)) dX0_read_24 ⟨Nat.le_of_ble_eq_true rfl, Nat.le_of_ble_eq_true rfl⟩) (fun x2 e2 => ?_)
    have e2 : x2 = nI (d % 8) := e2
    subst e2
    refine lv_ior hx hb dX0_read_27 ?_
    refine lv_topi (fun x3 e3 => ?_)
    have e3 : x3 = nI d := e3.trans (fw_n3 d hd)
    exact W.iret (v := x3) hx hb hr (fun t ht hW => ⟨⟨x3, (), rfl, by rw [hn]; exact e3, trivial⟩, hS.F ht⟩) hS.2.2 dX0_read_28
set_option maxHeartbeats 4000000 in
set_option maxRecDepth 100000 in
/-- FormatWord.apart(a, b) -/
theorem mt_xapart (l : Launch) (h0 : Nat) (a0 b0 : Int32) : Met l yX0_apart (ws_ yX0_apart cX0_apart 3 (some .int)) ({ frames := 2, cells := 0, slots := 0, locals := 41 }) (fw_pc [.ref h0, .int a0, .int b0]) (vp_Si (fun r => r = nI (fw_P (a0 ^^^ b0)))) 0 0 (fun _ => False) := by
  refine Met.ofW (cc := cX0_apart) (maxL := 3) (ret := (some .int)) (by decide) rfl ?_
  intro p e s m args below meth c s₁ B hml hv
  obtain rfl : args = ([.ref h0, .int a0, .int b0] : List Value).toArray := hv
  have hx := B.exec
  have hb := B.bytes
  have hr := B.returns
  have hts := atoms_spec (ws := ws_ yX0_apart cX0_apart 3 (some .int)) B.pre
  have hts : ∀ w ∈ lw_all, w.before _ s = true := fun w h => hts w (List.mem_cons_of_mem _ h)
  have hown : s.vm.findClass RX0 = some m.cls := findClass_of_methodNamed B.named
  have hlocks := B.notSynchronized
  have hl := lv_entry ([.ref h0, .int a0, .int b0]) (n := 3) (Nat.le_of_ble_eq_true rfl)
  rw [lg_entry_eq]
  generalize (lg_sl ([.ref h0, .int a0, .int b0]) ++ List.replicate (3 - (lg_sl ([.ref h0, .int a0, .int b0])).length) Slot.unset).toArray = ls at hl ⊢
  have hl : lv_has ls 3 [(0, .ref h0), (1, .int a0), (2, .int b0)] := hl
  refine lv_iload_n hx hb dX0_apart_0 rfl (lv_at hl 1 rfl) ?_
  refine lv_iload_n hx hb dX0_apart_1 rfl (lv_at hl 2 rfl) ?_
  refine vp_callSi (W.runS (As := [.int a0, .int b0]) (rest := []) ⟨hx, hb, hml, hown, hts⟩ (mt_numBits l a0 b0) (va_cwS 2 hts (lw_S q139 q115 q5 q116) rfl rfl rfl (by decide +kernel) ⟨Nat.le_of_ble_eq_true rfl, Nat.le_of_ble_eq_true rfl⟩) fw_pre rfl rfl hl.1 rfl (lv_room (Nat.le_of_ble_eq_true rfl)) dX0_apart_2 ⟨Nat.le_of_ble_eq_true rfl, Nat.le_of_ble_eq_true rfl⟩) (fun r er => ?_)
  exact W.iret (v := r) hx hb hr (fun t ht hW => ⟨r, rfl, er, ht⟩) (fun q h => by cases h) dX0_apart_5
end
section
/-! the start: what the Statement says that the statics hold, as the world fw_C has it -/
abbrev fw_L : List Cond := flatC (Jvm.Cond.and given_1 narrow_1)
abbrev fw_tm : Term := .static "FormatInformation" "FORMAT_INFO_DECODE_LOOKUP" "[[I"
abbrev fw_el (j : Nat) : Term := .elem fw_tm (.int (Int32.ofNat j))
abbrev fw_fb : Term := .static "ErrorCorrectionLevel" "FOR_BITS" "[LErrorCorrectionLevel;"
abbrev fw_cn (n : String) : Term := .static "ErrorCorrectionLevel" n "LErrorCorrectionLevel;"
/-- where the words of the table's j-th row begin -/
def fw_at (j : Nat) : Nat := 9 + 6 * j + j * (j - 1) / 2
set_option maxRecDepth 100000 in
theorem fw_w1 : ∀ j, j < 32 → fw_L[fw_at j + 1]? = some (Cond.arrayOf (fw_el j) .int) := by decide +kernel
set_option maxRecDepth 100000 in
theorem fw_w2 : ∀ j, j < 32 → fw_L[fw_at j + 3]? = some (Cond.eq (.length (fw_el j)) (.int (Int32.ofNat 2))) := by decide +kernel
set_option maxRecDepth 100000 in
theorem fw_w3 : ∀ j, j < 32 → fw_L[fw_at j + 4]? = some (Cond.eq (.elem (fw_el j) (.int (Int32.ofNat 0))) (.int (fw_W j))) := by decide +kernel
set_option maxRecDepth 100000 in
theorem fw_w4 : ∀ j, j < 32 → fw_L[fw_at j + 5]? = some (Cond.eq (.elem (fw_el j) (.int (Int32.ofNat 1))) (.int (nI j))) := by decide +kernel
set_option maxRecDepth 100000 in
theorem fw_w5 : fw_L[6]? = some (Cond.arrayOf fw_tm (.array .int)) := by decide +kernel
set_option maxRecDepth 100000 in
theorem fw_w6 : fw_L[8]? = some (Cond.eq (.length fw_tm) (.int (Int32.ofNat 32))) := by decide +kernel
set_option maxRecDepth 100000 in
theorem fw_v1 : fw_L[700]? = some (Cond.arrayOf fw_fb (.object "ErrorCorrectionLevel")) := by decide +kernel
set_option maxRecDepth 100000 in
theorem fw_v2 : fw_L[702]? = some (Cond.eq (.length fw_fb) (.int (Int32.ofNat 4))) := by decide +kernel
set_option maxRecDepth 100000 in
theorem fw_v3 : ∀ i, i < 4 → fw_L[704 + i]? = some (Cond.eq (.elem fw_fb (.int (Int32.ofNat i))) (fw_cn (fw_nm.getD i ""))) := by decide +kernel
set_option maxRecDepth 100000 in
theorem fw_v4 : ∀ i, i < 4 → fw_L[([710, 714, 719, 725] : List Nat).getD i 0]? = some (Cond.exactly (fw_cn (fw_nm.getD i "")) "ErrorCorrectionLevel") := by decide +kernel
set_option maxRecDepth 100000 in
theorem fw_v5 : ∀ i, i < 4 → fw_L[([713, 717, 722, 728] : List Nat).getD i 0]? = some (Cond.eq (.field (fw_cn (fw_nm.getD i "")) "ErrorCorrectionLevel" "bits" "I") (.int (([0, 1, 2, 3] : List Int32).getD i 0))) := by decide +kernel
set_option maxRecDepth 100000 in
theorem fw_v6 : ∀ i, i < 4 → ∀ j, j < 4 → i < j → fw_L[([718, 723, 724, 729, 730, 731] : List Nat).getD (i + j * (j - 1) / 2) 0]? = some (Cond.not (.eq (fw_cn (fw_nm.getD i "")) (fw_cn (fw_nm.getD j "")))) := by decide +kernel
set_option maxHeartbeats 4000000 in
set_option maxRecDepth 100000 in
theorem fw_start {b : Nat} {s : State} {A : Nat → Prop} (hgv : (Jvm.Cond.and given_1 narrow_1).before #[Value.ref b] s = true) (hts : ∀ w ∈ lw_tbl, w.before #[Value.ref b] s = true) (hA : ∀ a : Nat, a < s.heap.size → ¬ A a) : ∃ (tT : Nat) (rw : Nat → Nat) (tF : Nat) (ad : Nat → Nat), fw_C tT rw tF ad A s s.heap := by
  have hs : ∀ (i : Nat) (c : Cond), fw_L[i]? = some c → c.before #[Value.ref b] s = true := fun i c h => flat_of_before _ hgv c (List.mem_of_getElem? h)
  -- the table of words
  have h0 : ∀ j : Nat, ∃ t : Nat, j < 32 → (fw_el j).eval #[Value.ref b] s none [] s = some (.ref t) ∧ va_T .int t 2 (fw_row j) A s s.heap := by
    intro j
    by_cases hj : j < 32
    · obtain ⟨t, h1, h2⟩ := va_Tof (tm := fw_el j) (ty := .int) (N := 2) (f := fw_row j) (A := A) (by decide) (hs _ _ (fw_w1 j hj)) (va_eqt (hs _ _ (fw_w2 j hj))) (fun k hk => by
        rcases (show k = 0 ∨ k = 1 by omega) with rfl | rfl
        · exact va_eqt (hs _ _ (fw_w3 j hj))
        · exact va_eqt (hs _ _ (fw_w4 j hj))) hA
      exact ⟨t, fun _ => ⟨h1, h2⟩⟩
    · exact ⟨0, fun h => absurd h hj⟩
  obtain ⟨rw, hrw⟩ := Classical.axiomOfChoice h0
  obtain ⟨tT, hT1, hT2⟩ := va_Tof (tm := fw_tm) (ty := .array .int) (N := 32) (f := fun j => .ref (rw j)) (A := A) (by decide) (hs _ _ fw_w5) (va_eqt (hs _ _ fw_w6)) (fun j hj => (hrw j hj).1) hA
  -- the constants
  obtain ⟨ad, hE, hev⟩ := va_Enof2 (E := "ErrorCorrectionLevel") (d := "LErrorCorrectionLevel;") (nm := fw_nm) (F := fw_F) (A := A) (args := #[Value.ref b]) (s := s) (fun i hi => by
      have hi : i < 4 := hi
      rcases (show i = 0 ∨ i = 1 ∨ i = 2 ∨ i = 3 by omega) with rfl | rfl | rfl | rfl
      · exact hts _ q167
      · exact hts _ q168
      · exact hts _ q169
      · exact hts _ q170) (hts _ (lw_all_tbl q7)) (fun i hi => hs _ _ (fw_v4 i hi)) (fun q hq i hi => by
      obtain rfl : q = ("ErrorCorrectionLevel", "bits", "I", [0, 1, 2, 3]) := List.mem_singleton.mp hq
      exact hs _ _ (fw_v5 i hi)) (fun i j hi hj hij => by
      rcases Nat.lt_or_ge i j with h | h
      · exact Or.inl (hs _ _ (fw_v6 i hi j hj h))
      · exact Or.inr (hs _ _ (fw_v6 j hj i hi (by omega)))) hA
  obtain ⟨tF, hF1, hF2⟩ := va_Tof (tm := fw_fb) (ty := .object "ErrorCorrectionLevel") (N := 4) (f := fun j => .ref (ad j)) (A := A) (by decide) (hs _ _ fw_v1) (va_eqt (hs _ _ fw_v2)) (fun i hi => va_eqv (hs _ _ (fw_v3 i hi)) (hev i hi)) hA
  exact ⟨tT, rw, tF, ad, va_Zref (hts _ q34) (hts _ (lw_all_tbl q5)) hT1 hA, hT2, fun j hj => (hrw j hj).2, va_Zref (hts _ q45) (hts _ (lw_all_tbl q7)) hF1 hA, hF2, hE⟩
end
section
/-! THE CLAIM OUT OF ONE WALK OF THE LAW'S BODY. Your part is whole_start (and what it stands on); all else here is the same for every law, but numbers. -/
def R_law : String := "FormatWordLaw"
def lw_P (b : Addr) (xs : List Int32) (args : Array Value) (s : State) : Prop := args = #[.ref b] ∧ s.IntsAt b xs ∧ xs.length ≤ 384 ∧ (Jvm.Cond.and given_1 narrow_1).before args s = true
def lw_Q (_ : Array Value) (s : State) (o : Outcome) (t : State) : Prop := o = .returned (some (.int 1)) ∧ Framed s o t [] 600128 7301098
def lw_Z (below : List Frame) (a : Array Value) (s : State) : State → Prop := fun t => ∃ o, t.status = .running ∧ Ended t below o ∧ lw_Q a s o t
/-- the law's own end, with 1 on the stack, nothing written that was there before, its room as the claim has it -/
theorem lw_ret {p : Program} {l : Launch} {e : Env} {s : State} {m : MethodId} {below : List Frame} {meth : Method} {c : Code} {b : Nat} (hx : p.tables.exec = Jvm.exec) (hb : c.code = code) (hr : meth.sig.returnType = ret) (hlocks : meth.locks = false) {pc : Nat} {H : Heap} {ls : Array Slot} (hdg : decode code pc = .ok (.ireturn, 1)) : W p l e room_1 s m #[Value.ref b] below meth c H [] 600128 7301098 (lw_Z below #[Value.ref b] s) (F0 m pc ls [.int 1]) := by
  intro T hT X
  obtain ⟨fs, hret, hrun, hended, hW, hframe⟩ := X.leave (v := some (.int 1)) (hlocks := hlocks) (fun h => by rw [hr] at h; cases h)
  have hmeth' : T.vm.method? m = some meth := X.method'
  refine ⟨T.setFrames fs, ?_, .returned (some (.int 1)), hrun, hended, rfl, ⟨_, rfl⟩, hW, hframe⟩
  jvm_step X.here [X.here.top, hx, hb, hdg, hmeth', hr, ret, narrow_b1]
  (try refine ⟨rfl, ?_⟩); (try refine ⟨rfl, ?_⟩)
  first | (intro acts; rw [hret _ acts rfl rfl rfl]) | rw [hret _ _ rfl rfl rfl]
  exact Steps.refl _
/-- what holds at the law's entry: the machine, the code, the tables' words (any of lw_tbl by 'hts w (by decide +kernel)'), the script of L ints xs at the cell b, what the Statement gives of the start (any of its parts by flat_of_before) -/
def lw_At (p : Program) (s : State) (m : MethodId) (meth : Method) (c : Code) (b L : Nat) (xs : Nat → Int32) : Prop :=
  p.tables.exec = Jvm.exec ∧ c.code = code ∧ meth.sig.returnType = ret ∧ c.maxLocals = 4 ∧ s.vm.findClass R_law = some m.cls ∧ (∀ w ∈ lw_tbl, w.before #[Value.ref b] s = true) ∧ va_X b L xs s s.heap ∧ b < s.heap.size ∧ meth.locks = false ∧ (Jvm.Cond.and given_1 narrow_1).before #[Value.ref b] s = true
theorem fw_go {L i : Nat} (hL : L ≤ 384) (hi : i ≤ L) (h : ¬ nI L - 6 < nI i) : i + 6 ≤ L := by
  rcases Nat.lt_or_ge L (i + 6) with q | q
  · refine absurd ?_ h
    rw [Int32.lt_iff_toInt_lt, show nI L - 6 = nI L - nI 6 from rfl, pk_sub_toInt (by omega) (by decide), nI_toInt (by omega)]
    omega
  · exact q
set_option maxHeartbeats 4000000 in
set_option maxRecDepth 100000 in
/-- THE LAW'S LOOP: at its head, j calls done, nothing old was written -/
theorem fw_loop {p : Program} {l : Launch} {e : Env} {s : State} {m : MethodId} {below : List Frame} {meth : Method} {c : Code} {dC : Nat → ClassId} {dI : Nat → Nat → Nat} {tT : Nat} {rw : Nat → Nat} {tF : Nat} {ad : Nat → Nat} {b L : Nat} {xs : Nat → Int32} (hL : L ≤ 384) (C0 : lw_At p s m meth c b L xs) (hK : va_K (dC, dI) fw_cl [] s) (hC : fw_C tT rw tF ad (fun q : Nat => s.heap.size ≤ q) s s.heap) (qx qm : Nat) :
    ∀ (n j : Nat), 6 * j ≤ L → L + 6 ≤ 6 * j + 6 * n → ∀ (x3 : Int32), x3 = nI (6 * j) → ∀ (H : Heap) (locs : List Loc), va_P (dC, dI) fw_cl [(qx, .inr (0, [])), (qm, .inr (1, []))] H → va_D (fun q : Nat => s.heap.size ≤ q) [(qx, .inr (0, [])), (qm, .inr (1, []))] → va_S (fun q : Nat => s.heap.size ≤ q) s.heap H locs → ∀ (ls : Array Slot), lv_has ls 4 [(0, .ref b), (1, .ref qx), (2, .ref qm), (3, .int x3)] → W p l e room_1 s m #[Value.ref b] below meth c H locs (2 + 2 * j) (4 * j) (lw_Z below #[Value.ref b] s) (F0 m 18 ls []) := by
  obtain ⟨hx, hb, hr, hml, hown, hts0, hX, hbl, hlocks, hgv⟩ := C0
  have hb : c.code = cL_law := hb
  have hts : ∀ w ∈ lw_all, w.before #[Value.ref b] s = true := fun w h => hts0 w (lw_all_tbl h)
  have hA : ∀ q : Nat, s.heap.size ≤ q → (fun q : Nat => s.heap.size ≤ q) q := fun _ h => h
  have hbA : ¬ (fun q : Nat => s.heap.size ≤ q) b := Nat.not_le.mpr hbl
  intro n
  induction n with
  | zero =>
    intro j h1 h2
    exact absurd h2 (by omega)
  | succ n ih =>
    intro j hj hjn x3 e3 H locs hP hD hS ls hl
    subst e3
    refine lv_iload_n hx hb dL_law_18 rfl (lv_at hl 3 rfl) ?_
    refine lv_aload_n hx hb dL_law_19 rfl (lv_at hl 0 rfl) ?_
    refine va_slen hx hb hX hbl hbA hS dL_law_20 ?_
    refine lv_bipush (v := 6) hx hb dL_law_21 (by decide) ?_
    refine lv_isub hx hb dL_law_23 ?_
    refine lv_icmp_gt (tgt := 132) hx hb dL_law_24 (by decide) (fun c1 => ?_) (fun c1 => ?_)
    · refine lv_iconst (v := 1) hx hb dL_law_132 (by decide) ?_
      refine va_forget (fun q hq => hS.2.2 q hq) ?_
      refine W.widen (k := 600128) (n := 7301098) (by omega) (by omega) ?_
      exact lw_ret hx hb hr hlocks dL_law_133
    · have hgo : 6 * j + 6 ≤ L := fw_go hL hj c1
      have h_0 : vp_in (nI (6 * j)) L := vp_in_nI (by omega) (by omega)
      have h_1 : vp_in (nI (6 * j + 1)) L := vp_in_nI (by omega) (by omega)
      have h_2 : vp_in (nI (6 * j + 2)) L := vp_in_nI (by omega) (by omega)
      -- the next call
      have K126 : ∀ (H : Heap) (locs : List Loc), va_P (dC, dI) fw_cl [(qx, .inr (0, [])), (qm, .inr (1, []))] H → va_D (fun q : Nat => s.heap.size ≤ q) [(qx, .inr (0, [])), (qm, .inr (1, []))] → va_S (fun q : Nat => s.heap.size ≤ q) s.heap H locs → W p l e room_1 s m #[Value.ref b] below meth c H locs (2 + 2 * (j + 1)) (4 * (j + 1)) (lw_Z below #[Value.ref b] s) (F0 m 126 ls []) := by
        intro H locs hP hD hS
        obtain ⟨y3, ey3⟩ : ∃ y : Int32, y = nI (6 * j) + 6 := ⟨_, rfl⟩
        refine lv_iinc (v := y3) (lv' := [(3, .int y3), (0, .ref b), (1, .ref qx), (2, .ref qm)]) hx hb dL_law_126 hl (k := 3) rfl (by rw [ey3]; rfl) (by decide) rfl (fun ls hl => ?_)
        refine lv_goto (tgt := 18) hx hb dL_law_129 (by decide) ?_
        exact ih (j + 1) (by omega) (by omega) y3 (by rw [ey3]; exact nI_add (6 * j) 6) H locs hP hD hS ls (lv_sub hl [1, 2, 3, 0] rfl)
      refine lv_aload_n hx hb dL_law_27 rfl (lv_at hl 0 rfl) ?_
      refine lv_iload_n hx hb dL_law_28 rfl (lv_at hl 3 rfl) ?_
      refine va_sld hx hb hX hbl hbA hS h_0 dL_law_29 ?_
      refine lv_bipush (v := 15) hx hb dL_law_30 (by decide) ?_
      refine lv_iand hx hb dL_law_32 ?_
      refine lv_topi (fun w ew => ?_)
      by_cases w0 : w = 0
      · -- read
        refine lv_lookup (off := 27) (tgt := 60) hx hb dL_law_33 (by decide) (by rw [w0]; rfl) (by decide) ?_
        refine lv_aload_n hx hb dL_law_60 rfl (lv_at hl 1 rfl) ?_
        refine lv_aload_n hx hb dL_law_61 rfl (lv_at hl 0 rfl) ?_
        refine lv_iload_n hx hb dL_law_62 rfl (lv_at hl 3 rfl) ?_
        refine lv_iconst (v := 1) hx hb dL_law_63 (by decide) ?_
        refine lv_iadd hx hb dL_law_64 ?_
        refine lv_topi (fun y1 ey1 => ?_)
        obtain rfl : y1 = nI (6 * j + 1) := ey1.trans (nI_add (6 * j) 1)
        refine va_sld hx hb hX hbl hbA hS h_1 dL_law_65 ?_
        refine lv_aload_n hx hb dL_law_66 rfl (lv_at hl 0 rfl) ?_
        refine lv_iload_n hx hb dL_law_67 rfl (lv_at hl 3 rfl) ?_
        refine lv_iconst (v := 2) hx hb dL_law_68 (by decide) ?_
        refine lv_iadd hx hb dL_law_69 ?_
        refine lv_topi (fun y2 ey2 => ?_)
        obtain rfl : y2 = nI (6 * j + 2) := ey2.trans (nI_add (6 * j) 2)
        refine va_sld hx hb hX hbl hbA hS h_2 dL_law_70 ?_
        have hFc := va_free (wc := []) hD hS hA [] rfl
        refine va_calli (va_runV (As := [.int (xs (nI (6 * j + 1)).toNatClampNeg), .int (xs (nI (6 * j + 2)).toNatClampNeg)]) (rest := []) ⟨hx, hb, hml, hown, hts⟩ (mt_read l dC dI tT rw tF ad H.size qx (xs (nI (6 * j + 1)).toNatClampNeg) (xs (nI (6 * j + 2)).toNatClampNeg)) (cwV 2 hts (lw_V q22 q23 q24 q3 q25) rfl rfl rfl (by decide +kernel) ⟨Nat.le_of_ble_eq_true rfl, Nat.le_of_ble_eq_true rfl⟩) ⟨fw_PD.blind, va_recv hK hP (ci := 0) (q0 := 0) rfl rfl, fun U hU hW => ⟨rfl, fw_PD.give hC hK hS hFc hU hW.alike⟩⟩ rfl rfl hl.1 rfl (lv_room (Nat.le_of_ble_eq_true rfl)) dL_law_71 ⟨show 2 + 2 * j + 2 ≤ 600128 by omega, show 4 * j + 4 ≤ 7301098 by omega⟩) hS (fun q _ h => hFc q h) hFc (fun r1 u t H1 locs ht hvm hw hB hz1 hk1 hS => ?_)
        have hw : r1 = fw_ans (fw_dec (xs (nI (6 * j + 1)).toNatClampNeg) (xs (nI (6 * j + 2)).toNatClampNeg)) := hw
        obtain ⟨hP, hD⟩ := va_join (wr := [(qx, .inr (0, [])), (qm, .inr (1, []))]) (wc := []) (w1 := []) hP hD [] [0, 1] rfl rfl (by decide) (by decide) hk1 hFc (fun k q h => by simp at h) ⟨fun i j p q h => by simp at h, fun k q h => by simp at h⟩
        have hP : va_P (dC, dI) fw_cl [(qx, .inr (0, [])), (qm, .inr (1, []))] H1 := hP
        have hD : va_D (fun q : Nat => s.heap.size ≤ q) [(qx, .inr (0, [])), (qm, .inr (1, []))] := hD
        refine W.widen (k := 2 + 2 * (j + 1)) (n := 4 * (j + 1)) (by omega) (by omega) ?_
        refine lv_aload_n hx hb dL_law_74 rfl (lv_at hl 2 rfl) ?_
        refine lv_aload_n hx hb dL_law_75 rfl (lv_at hl 0 rfl) ?_
        refine lv_iload_n hx hb dL_law_76 rfl (lv_at hl 3 rfl) ?_
        refine lv_iconst (v := 1) hx hb dL_law_77 (by decide) ?_
        refine lv_iadd hx hb dL_law_78 ?_
        refine lv_topi (fun y1 ey1 => ?_)
        obtain rfl : y1 = nI (6 * j + 1) := ey1.trans (nI_add (6 * j) 1)
        refine va_sld hx hb hX hbl hbA hS h_1 dL_law_79 ?_
        refine lv_aload_n hx hb dL_law_80 rfl (lv_at hl 0 rfl) ?_
        refine lv_iload_n hx hb dL_law_81 rfl (lv_at hl 3 rfl) ?_
        refine lv_iconst (v := 2) hx hb dL_law_82 (by decide) ?_
        refine lv_iadd hx hb dL_law_83 ?_
        refine lv_topi (fun y2 ey2 => ?_)
        obtain rfl : y2 = nI (6 * j + 2) := ey2.trans (nI_add (6 * j) 2)
        refine va_sld hx hb hX hbl hbA hS h_2 dL_law_84 ?_
        have hRv : fw_Rv RX1 qm s H1 := va_recv hK hP (ci := 1) (q0 := 1) rfl rfl
        refine vp_callSi (W.runV (As := [.int (xs (nI (6 * j + 1)).toNatClampNeg), .int (xs (nI (6 * j + 2)).toNatClampNeg)]) (rest := [.int r1]) ⟨hx, hb, hml, hown, hts⟩ (mt_mread l qm (xs (nI (6 * j + 1)).toNatClampNeg) (xs (nI (6 * j + 2)).toNatClampNeg)) (cwV 2 hts (lw_V q151 q152 q153 q4 q154) rfl rfl rfl (by decide +kernel) ⟨Nat.le_of_ble_eq_true rfl, Nat.le_of_ble_eq_true rfl⟩) ⟨fun a U g mk q => ⟨q.1, fw_Rv.moved (u := U) (U := U.calling g mk a) (Vm.Alike.refl U.vm) q.2⟩, hRv, fun U hU hW => ⟨rfl, hRv.give hU hW.alike⟩⟩ rfl rfl hl.1 rfl (lv_room (Nat.le_of_ble_eq_true rfl)) dL_law_85 ⟨show 2 + 2 * (j + 1) + 0 ≤ 600128 by omega, show 4 * (j + 1) + 0 ≤ 7301098 by omega⟩) (fun r2 e2 => ?_)
        refine lv_icmp_eq (tgt := 126) hx hb dL_law_88 (by decide) (fun c2 => K126 H1 locs hP hD hS) (fun c2 => ?_)
        exact absurd (hw.trans (Eq.symm e2)) c2
      · by_cases w1 : w = 1
        · -- apart
          refine lv_lookup (off := 60) (tgt := 93) hx hb dL_law_33 (by decide) (by rw [w1]; rfl) (by decide) ?_
          refine lv_aload_n hx hb dL_law_93 rfl (lv_at hl 1 rfl) ?_
          refine lv_aload_n hx hb dL_law_94 rfl (lv_at hl 0 rfl) ?_
          refine lv_iload_n hx hb dL_law_95 rfl (lv_at hl 3 rfl) ?_
          refine lv_iconst (v := 1) hx hb dL_law_96 (by decide) ?_
          refine lv_iadd hx hb dL_law_97 ?_
          refine lv_topi (fun y1 ey1 => ?_)
          obtain rfl : y1 = nI (6 * j + 1) := ey1.trans (nI_add (6 * j) 1)
          refine va_sld hx hb hX hbl hbA hS h_1 dL_law_98 ?_
          refine lv_aload_n hx hb dL_law_99 rfl (lv_at hl 0 rfl) ?_
          refine lv_iload_n hx hb dL_law_100 rfl (lv_at hl 3 rfl) ?_
          refine lv_iconst (v := 2) hx hb dL_law_101 (by decide) ?_
          refine lv_iadd hx hb dL_law_102 ?_
          refine lv_topi (fun y2 ey2 => ?_)
          obtain rfl : y2 = nI (6 * j + 2) := ey2.trans (nI_add (6 * j) 2)
          refine va_sld hx hb hX hbl hbA hS h_2 dL_law_103 ?_
          refine vp_callSi (W.runV (As := [.int (xs (nI (6 * j + 1)).toNatClampNeg), .int (xs (nI (6 * j + 2)).toNatClampNeg)]) (rest := []) ⟨hx, hb, hml, hown, hts⟩ (mt_xapart l qx (xs (nI (6 * j + 1)).toNatClampNeg) (xs (nI (6 * j + 2)).toNatClampNeg)) (cwV 2 hts (lw_V q135 q136 q137 q3 q138) rfl rfl rfl (by decide +kernel) ⟨Nat.le_of_ble_eq_true rfl, Nat.le_of_ble_eq_true rfl⟩) ⟨fun _ _ _ _ q => q, va_recv hK hP (ci := 0) (q0 := 0) rfl rfl, fun _ _ _ => rfl⟩ rfl rfl hl.1 rfl (lv_room (Nat.le_of_ble_eq_true rfl)) dL_law_104 ⟨show 2 + 2 * j + 0 ≤ 600128 by omega, show 4 * j + 0 ≤ 7301098 by omega⟩) (fun r1 e1 => ?_)
          refine lv_aload_n hx hb dL_law_107 rfl (lv_at hl 2 rfl) ?_
          refine lv_aload_n hx hb dL_law_108 rfl (lv_at hl 0 rfl) ?_
          refine lv_iload_n hx hb dL_law_109 rfl (lv_at hl 3 rfl) ?_
          refine lv_iconst (v := 1) hx hb dL_law_110 (by decide) ?_
          refine lv_iadd hx hb dL_law_111 ?_
          refine lv_topi (fun y1 ey1 => ?_)
          obtain rfl : y1 = nI (6 * j + 1) := ey1.trans (nI_add (6 * j) 1)
          refine va_sld hx hb hX hbl hbA hS h_1 dL_law_112 ?_
          refine lv_aload_n hx hb dL_law_113 rfl (lv_at hl 0 rfl) ?_
          refine lv_iload_n hx hb dL_law_114 rfl (lv_at hl 3 rfl) ?_
          refine lv_iconst (v := 2) hx hb dL_law_115 (by decide) ?_
          refine lv_iadd hx hb dL_law_116 ?_
          refine lv_topi (fun y2 ey2 => ?_)
          obtain rfl : y2 = nI (6 * j + 2) := ey2.trans (nI_add (6 * j) 2)
          refine va_sld hx hb hX hbl hbA hS h_2 dL_law_117 ?_
          refine vp_callSi (W.runV (As := [.int (xs (nI (6 * j + 1)).toNatClampNeg), .int (xs (nI (6 * j + 2)).toNatClampNeg)]) (rest := [.int r1]) ⟨hx, hb, hml, hown, hts⟩ (mt_apart l qm (xs (nI (6 * j + 1)).toNatClampNeg) (xs (nI (6 * j + 2)).toNatClampNeg)) (cwV 2 hts (lw_V q147 q148 q149 q4 q150) rfl rfl rfl (by decide +kernel) ⟨Nat.le_of_ble_eq_true rfl, Nat.le_of_ble_eq_true rfl⟩) ⟨fun _ _ _ _ q => q, va_recv hK hP (ci := 1) (q0 := 1) rfl rfl, fun _ _ _ => rfl⟩ rfl rfl hl.1 rfl (lv_room (Nat.le_of_ble_eq_true rfl)) dL_law_118 ⟨show 2 + 2 * j + 0 ≤ 600128 by omega, show 4 * j + 0 ≤ 7301098 by omega⟩) (fun r2 e2 => ?_)
          refine lv_icmp_eq (tgt := 126) hx hb dL_law_121 (by decide) (fun c2 => ?_) (fun c2 => ?_)
          · refine W.widen (k := 2 + 2 * (j + 1)) (n := 4 * (j + 1)) (by omega) (by omega) ?_
            exact K126 H locs hP hD hS
          · exact absurd (Eq.trans e1 (Eq.symm e2)) c2
        · -- neither
          refine lv_lookup (off := 93) (tgt := 126) hx hb dL_law_33 (by decide) ((lv_osw (k := 0) w0 rfl).trans ((lv_osw (k := 1) w1 rfl).trans rfl)) (by decide) ?_
          refine W.widen (k := 2 + 2 * (j + 1)) (n := 4 * (j + 1)) (by omega) (by omega) ?_
          exact K126 H locs hP hD hS
end
section
set_option maxHeartbeats 4000000 in
set_option maxRecDepth 100000 in
/-- THE LAW, from its entry -/
theorem whole_start {p : Program} {e : Env} {s : State} {m : MethodId} {below : List Frame} {meth : Method} {c : Code} (l : Launch) (hflags : l.flags = flags0) {b L : Nat} {xs : Nat → Int32} (hL : L ≤ 384) (C0 : lw_At p s m meth c b L xs) : W p l e room_1 s m #[Value.ref b] below meth c s.heap [] 0 0 (lw_Z below #[Value.ref b] s) (entryFrame m ([Value.ref b] : List Value).toArray 4) := by
  obtain ⟨hx, hb, hr, hml, hown, hts0, hX, hbl, hlocks, hgv⟩ := id C0
  have hb : c.code = cL_law := hb
  have hts : ∀ w ∈ lw_all, w.before #[Value.ref b] s = true := fun w h => hts0 w (lw_all_tbl h)
  have hA : ∀ q : Nat, s.heap.size ≤ q → (fun q : Nat => s.heap.size ≤ q) q := fun _ h => h
  obtain ⟨tT, rw, tF, ad, hC⟩ := fw_start (A := fun q : Nat => s.heap.size ≤ q) hgv hts0 (fun a h => Nat.not_le.mpr h)
  obtain ⟨c0, iS0, hKn0⟩ := u_known (C := RX0) (T := TX0) (N := 0) (n := 0) hts in_X0 (hts _ q14)
  obtain ⟨c1, iS1, hKn1⟩ := u_known (C := RX1) (T := TX1) (N := 0) (n := 0) hts in_X1 (hts _ q141)
  obtain ⟨c2, iS2, hKn2⟩ := u_known (C := RX2) (T := TX2) (N := 2) (n := 2) hts in_X2 (hts _ q36)
  obtain ⟨dC, dI, hKc⟩ : ∃ (dC : Nat → ClassId) (dI : Nat → Nat → Nat), ∀ (k : Nat) (q : vw_C), fw_cl[k]? = some q → u_Kn s q.1 q.2.1 q.2.2 (dC k) (dI k) := by
    refine ⟨fun k => if k = 0 then c0 else if k = 1 then c1 else c2, fun k => if k = 0 then iS0 else if k = 1 then iS1 else iS2, ?_⟩
    intro k q hq
    match k, hq with
    | 0, hq => cases hq; exact hKn0
    | 1, hq => cases hq; exact hKn1
    | 2, hq => cases hq; exact hKn2
    | k + 3, hq => simp [fw_cl] at hq
  have hS : va_S (fun q : Nat => s.heap.size ≤ q) s.heap s.heap [] := va_S.rf
  have hK : va_K (dC, dI) fw_cl [] s := ⟨hKc, fun k q h => by simp at h⟩
  have hP : va_P (dC, dI) fw_cl [] s.heap := fun k q h => by simp at h
  have hD : va_D (fun q : Nat => s.heap.size ≤ q) [] := ⟨fun i j p q h => by simp at h, fun k q h => by simp at h⟩
  have hl := lv_entry ([.ref b]) (n := 4) (Nat.le_of_ble_eq_true rfl)
  rw [lg_entry_eq]
  generalize (lg_sl ([.ref b]) ++ List.replicate (4 - (lg_sl ([.ref b])).length) Slot.unset).toArray = ls at hl ⊢
  have hl : lv_has ls 4 [(0, .ref b)] := hl
  refine va_new (ci := 0) (fs := []) (C := RX0) (T := TX0) (N := 0) hx hb hts in_X0 tyX0 tyX0_ok hown (hts _ q13) (hts _ q14) (hts _ q3) hK hP hD hS hA rfl (fun j hj => absurd hj (Nat.not_lt_zero j)) (Nat.le_of_ble_eq_true rfl) (Nat.le_of_ble_eq_true rfl) dL_law_0 (fun qx H hP hD hS => ?_)
  have hP : va_P (dC, dI) fw_cl [(qx, .inr (0, []))] H := hP
  have hD : va_D (fun q : Nat => s.heap.size ≤ q) [(qx, .inr (0, []))] := hD
  refine W.widen (k := 1) (n := 0) (Nat.le_refl 1) (Nat.le_refl 0) ?_
  refine lv_dup hx hb dL_law_3 rfl ?_
  refine va_csv (W.runI (As := []) (rest := [.ref qx]) ⟨hx, hb, hml, hown, hts⟩ (mt_init0 l qx) (cwI 0 hts (lw_meth q17) rfl rfl rfl (hts _ q3) (hts _ q15) (hts _ q16) rfl (by decide +kernel) ⟨Nat.le_of_ble_eq_true rfl, Nat.le_of_ble_eq_true rfl⟩) fw_pre rfl rfl hl.1 rfl (lv_room (Nat.le_of_ble_eq_true rfl)) dL_law_4 ⟨Nat.le_of_ble_eq_true rfl, Nat.le_of_ble_eq_true rfl⟩) (fun _ => ?_)
  refine lv_astore_n (lv' := [(1, .ref qx), (0, .ref b)]) hx hb dL_law_7 rfl hl (by decide) rfl (fun ls hl => ?_)
  refine va_new (ci := 1) (fs := []) (C := RX1) (T := TX1) (N := 0) hx hb hts in_X1 tyX0 tyX1_ok hown (hts _ q140) (hts _ q141) (hts _ q4) hK hP hD hS hA rfl (fun j hj => absurd hj (Nat.not_lt_zero j)) (Nat.le_of_ble_eq_true rfl) (Nat.le_of_ble_eq_true rfl) dL_law_8 (fun qm H hP hD hS => ?_)
  have hP : va_P (dC, dI) fw_cl [(qx, .inr (0, [])), (qm, .inr (1, []))] H := hP
  have hD : va_D (fun q : Nat => s.heap.size ≤ q) [(qx, .inr (0, [])), (qm, .inr (1, []))] := hD
  refine W.widen (k := 2) (n := 0) (Nat.le_refl 2) (Nat.le_refl 0) ?_
  refine lv_dup hx hb dL_law_11 rfl ?_
  refine va_csv (W.runI (As := []) (rest := [.ref qm]) ⟨hx, hb, hml, hown, hts⟩ (mt_init1 l qm) (cwI 0 hts (lw_meth q144) rfl rfl rfl (hts _ q4) (hts _ q142) (hts _ q143) rfl (by decide +kernel) ⟨Nat.le_of_ble_eq_true rfl, Nat.le_of_ble_eq_true rfl⟩) fw_pre rfl rfl hl.1 rfl (lv_room (Nat.le_of_ble_eq_true rfl)) dL_law_12 ⟨Nat.le_of_ble_eq_true rfl, Nat.le_of_ble_eq_true rfl⟩) (fun _ => ?_)
  refine lv_astore_n (lv' := [(2, .ref qm), (1, .ref qx), (0, .ref b)]) hx hb dL_law_15 rfl hl (by decide) rfl (fun ls hl => ?_)
  refine lv_iconst (v := 0) hx hb dL_law_16 (by decide) ?_
  refine lv_istore_n (lv' := [(3, .int 0), (2, .ref qm), (1, .ref qx), (0, .ref b)]) hx hb dL_law_17 rfl hl (by decide) rfl (fun ls hl => ?_)
  exact fw_loop hL C0 hK hC qx qm (L + 1) 0 (Nat.zero_le L) (by omega) 0 nI_0.symm _ _ hP hD hS ls (lv_sub hl [3, 2, 1, 0] rfl)
set_option maxHeartbeats 4000000 in
theorem lw_walk (l : Launch) (hflags : l.flags = flags0) (b : Addr) (xs : List Int32) : MetFree l x (headSpec (Jvm.Cond.code x code maxLocals ret :: tables_1) room_1) (lw_P b xs) (fun _ _ _ _ _ => True) lw_Q := by
  refine MetFree.of_bodyS (code := code) (maxLocals := maxLocals) (ret := ret) (by decide) ?_ ?_
  · intro args s m h hn
    obtain ⟨meth, c, h1, h2, h3, h4, h5, h6, -, -⟩ := Cond.code_spec hn (atoms_spec (ws := Jvm.Cond.code x code maxLocals ret :: tables_1) h _ List.mem_cons_self)
    exact ⟨meth, c, h1, h2, h3, h4, h5, h6⟩
  · intro p e s m args below meth c s₁ B hml0 hP _
    obtain ⟨rfl, hx, hbd, hgv⟩ := hP
    obtain ⟨scr, harrAt, hlist, hof, hsmall⟩ := hx
    obtain ⟨hcb, hkn, -, -⟩ := State.arrayAt?_spec harrAt
    have hown : s.vm.findClass R_law = some m.cls := findClass_of_methodNamed B.named
    have hts0 : ∀ c ∈ (Jvm.Cond.code x code maxLocals ret :: tables_1), c.before #[Value.ref b] s = true := atoms_spec (ws := Jvm.Cond.code x code maxLocals ret :: tables_1) B.pre
    have hts : ∀ w ∈ lw_tbl, w.before #[Value.ref b] s = true := k2_hts_sels lw_privs (fun w hw => hts0 w (List.mem_cons_of_mem _ hw)) lw_privs_ok
    have hml : c.maxLocals = 4 := B.maxLocals_eq (hts0 _ List.mem_cons_self)
    have X₀ : Stand p l e room_1 s m #[Value.ref b] below meth c s₁ [] 0 0 := Stand.of_body B
    have hh0 : s₁.heap = s.heap := by rw [B.state]; rfl
    have hsz : scr.slots.size = xs.length := by rw [← Array.length_toList, hlist, List.length_map]
    have hval : ∀ j : Nat, j < xs.length → scr.slots[j]? = some (.int (xs.getD j 0)) := fun j hj => by
      rw [← Array.getElem?_toList, hlist]
      simp [hj]
    have hbl : b < s.heap.size := (Array.getElem?_eq_some_iff.mp hcb).1
    have hX : va_X b xs.length (fun j => xs.getD j 0) s s.heap := ⟨scr, hcb, hof, hkn, hsz, hval⟩
    have K : W p l e room_1 s m #[Value.ref b] below meth c s₁.heap [] 0 0 (lw_Z below #[Value.ref b] s) (entryFrame m ([Value.ref b] : List Value).toArray 4) := by
      rw [hh0]
      exact whole_start l hflags hbd ⟨B.exec, B.bytes, B.returns, hml, hown, hts, hX, hbl, B.notSynchronized, hgv⟩
    obtain ⟨t, a1, o, b1, b2, b3⟩ := K s₁ rfl X₀
    exact ⟨t, o, a1, b1, b2, b3⟩
theorem lw_pre_spec {args : Array Value} {s : State} (h : (Jvm.Cond.and given_1 narrow_1).before args s = true) (hr : rest_1_c.before args s = true) : ∃ (b : Addr) (xs : List Int32), lw_P b xs args s := by
  have hs := flat_of_before _ h
  have hq := flat_of_before _ hr
  have hc : (Cond.count 1).before args s = true := hs _ (by decide +kernel)
  have harr : (Cond.arrayOf (.arg 0) .int).before args s = true := hs _ (by decide +kernel)
  have hle : (Cond.le (.length (.arg 0)) (.int 384)).before args s = true := hs _ (by decide +kernel)
  have hlen : (Cond.isInt (.length (.arg 0))).before args s = true := hq _ (by decide +kernel)
  have hall : (Cond.all (.arg 0) (.isInt (.elem (.arg 0) (.index 0)))).before args s = true := hq _ (by decide +kernel)
  obtain ⟨b, xs, hb, hx⟩ := State.ints_of_pre rfl harr hlen hall
  have hsm : xs.length < 2 ^ 31 := hx.choose_spec.2.2.2
  have hev : (Term.length (.arg 0)).eval args s none [] s = some (.int xs.length.toInt32) := hx.length_eval hb
  have hv := Cond.le_ints hev (show (Term.int 384).eval args s none [] s = some (.int 384) from rfl)
  have hd : xs.length.toInt32 ≤ 384 := by
    simpa [Cond.before, Cond.holds, hv] using hle
  have hN : xs.length ≤ 384 := (Int32.ofNat_le_ofNat hsm (by decide)).mp (show Int32.ofNat xs.length ≤ Int32.ofNat 384 from hd)
  exact ⟨b, xs, Cond.one_arg hc (show args[0]? = some (.ref b) from hb), hx, hN, h⟩
theorem lw_comes (l : Launch) (hflags : l.flags = flags0) : Comes l x (Jvm.Cond.code x code maxLocals ret :: tables_1) room_1 (fun tb e args s => Calls_1 tb e args s ∧ rest_1 tb e args s ∧ Pre_1 tb e args s)
    (fun _ _ args s o t => lw_Q args s o t) := by
  intro p e ha hc hk s m args below hf hfit hheap happ hpre
  obtain ⟨b, xs, hP⟩ := lw_pre_spec hpre.2.2 hpre.2.1
  obtain ⟨k, o, h1, h2, h3, hQ⟩ := lw_walk l hflags b xs p e ha hc hk s m args below hf ((Spec.applies_iff_loose hf).mp happ).1 hP trivial
  exact ⟨k, o, h1, h2, h3, hQ⟩
theorem lw_frame {s t : State} {o : Outcome} {args : Array Value} (h : Framed s o t [] 600128 7301098) :
    Framed s o t (fieldLocs frame_1_writes args s ++ arrayLocs frame_1_arrays args s ++ staticLocs frame_1_statics s) 600128 7301098 := h
theorem lw_limb (L : Cond) (hL : ∀ (args : Array Value) (s t : State), L.after args s (.returned (some (.int 1))) t = true) :
    ArmFor flags0 classFile x code maxLocals ret World_1 tables_1 room_1 Calls_1 rest_1 Pre_1
      (fun tb e a s o t => postC L tb e a s o t ∧ Framed s o t (fieldLocs frame_1_writes a s ++ arrayLocs frame_1_arrays a s ++ staticLocs frame_1_statics s) 600128 7301098) := by
  intro l hflags _ _ p e ha hc hk s m args below hf hfit hheap happ hpre
  obtain ⟨k, o, h1, h2, h3, rfl, hF⟩ := lw_comes l hflags p e ha hc hk s m args below hf hfit hheap happ hpre
  exact ⟨k, _, h1, h2, h3, hL args s _, lw_frame hF⟩
theorem i_vc : Claimed_1_1 ∧ Claimed_1_2 := ⟨lw_limb limb_1_1 (fun args s t => by simp [limb_1_1, Cond.after, Cond.holds, Cond.value]), lw_limb limb_1_2 (fun args s t => Cond.after_iff.mpr (by
  first | (rw [show limb_1_2 = Cond.eq .result (.int 1) from rfl, Cond.eq_ints (x := 1) (y := 1) rfl rfl]; simp; done) | (simp [limb_1_2, Cond.value, Term.eval]; done)))⟩
end
